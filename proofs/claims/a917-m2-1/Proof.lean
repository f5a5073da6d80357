import JvmDerived
import JvmDerived.Pilot.@@N@@Statement
import JvmDerived.Pilot.@@N@@Code
set_option linter.unusedVariables false
set_option linter.unusedSimpArgs false
@@BLOCK:TracedD.lean.txt@@
namespace Jvm.RoadKit
open Sem ClassFile Op Lib Jvm.Stand Jvm.Free Jvm.LawKit
section New
variable {p : Program} {l : Launch} {e : Env} {R : Room} {s : State} {m : MethodId} {args : Array Value} {below : List Frame} {meth : Method} {c : Code} {T : State} {locs : List Loc} {cells slots : Nat}
theorem retI (X : Stand p l e R s m args below meth c T locs cells slots) (hx : p.tables.exec = Jvm.exec) {pc : Nat} {Ls : Array Slot} {z : Int32} {rest : List Value} (hret : meth.sig.returnType = some .int) (hd : decode c.code pc = .ok (.ireturn, 1)) {fs : List Frame}
    (hl : ∀ (f : JFrame) (acts : List Action), f.method = m → f.locked = none → f.entered = [] → (doReturn e (T.setTop f) acts (some (.int z))).1 = T.setFrames fs) : Steps p.tables e below (T.setTop (mkF m pc Ls (.int z :: rest))) (T.setFrames fs) := by
  have hm' : T.vm.method? m = some meth := X.method'
  have hn : narrow .int (.int z) = .int z := rfl
  show Steps p.tables e below (T.setTop { method := m, pc := pc, locals := Ls, stack := _ :: rest, locked := none }) _
  jvm_step X.here [X.here.top, hx, hd, hm', hret, hn]
  first | (intro acts; rw [hl _ acts rfl rfl rfl]) | rw [hl _ _ rfl rfl rfl]
  exact Steps.refl _
end New
end Jvm.RoadKit
namespace Jvm.Pilot.@@N@@
open Jvm Jvm.ClassFile Sem Op Lib Jvm.Free Jvm.Stand Jvm.LawKit Jvm.RoadKit Bundle Jvm.Pilot.@@N@@.Jvm.D
def own_R (s : State) (below : List Frame) (Q : Option Value → Heap → List Loc → Prop) (rc rs : Nat) (t : State) (o : Outcome) : Prop := t.status = .running ∧ Ended t below o ∧ ∃ v L, o = .returned v ∧ Q v t.heap L ∧ FrameEnd s o t L rc rs
def own_RW (s : State) (below : List Frame) (Q : Option Value → Heap → List Loc → Prop) (rc rs : Nat) (t : State) (o : Outcome) : Prop := t.status = .running ∧ Ended t below o ∧ ∃ v L, o = .returned v ∧ Q v t.heap L ∧ ReturnedEndW s o t L rc rs
def own_Go (p : Program) (e : Env) (below : List Frame) (Rr : State → Outcome → Prop) (S : State) : Prop := ∃ t o, Steps p.tables e below S t ∧ Rr t o
section OwnGo
variable {p : Program} {l : Launch} {e : Env} {R : Room} {s : State} {m : MethodId} {args : Array Value} {below : List Frame} {meth : Method} {c : Code} {T : State} {locs : List Loc} {cells slots : Nat} {Q : Option Value → Heap → List Loc → Prop} {rc rs : Nat} {S S' : State} {Rr : State → Outcome → Prop}
theorem own_bk (st : ∀ t, Steps p.tables e below S' t → Steps p.tables e below S t) (k : own_Go p e below Rr S') : own_Go p e below Rr S := by
  obtain ⟨t, o, h1, h2⟩ := k; exact ⟨t, o, st t h1, h2⟩
theorem own_seg (f : own_Go p e below Rr S' → own_Go p e below Rr S) (k : own_Go p e below Rr S') : own_Go p e below Rr S := f k
theorem own_tr (st : Steps p.tables e below S S') (k : own_Go p e below Rr S') : own_Go p e below Rr S := own_bk (fun t k => st.trans k) k
theorem own_retN (X : Stand p l e R s m args below meth c T locs cells slots) (hx : p.tables.exec = Jvm.exec) (hlk : meth.locks = false) {pc : Nat} {Ls : Array Slot} {z w : Int32} {t : FieldType} {rest : List Value} (hret : meth.sig.returnType = some t) (ht : t = .boolean ∨ t = .byte ∨ t = .char ∨ t = .short) (hd : decode c.code pc = .ok (.ireturn, 1)) (hz : nar t z = w)
    (hQ : Q (some (.int w)) T.heap locs) (hc : cells ≤ rc) (hs : slots ≤ rs) : own_Go p e below (own_R s below Q rc rs) (T.setTop (mkF m pc Ls (.int z :: rest))) := by
  subst hz
  obtain ⟨fs, hr, hrun, hended, hW, hsame⟩ := X.leave (v := some (.int (nar t z))) (fun h => by rw [hret] at h; cases h) hlk
  exact ⟨_, _, retN X hx hret ht hd hr, hrun, hended, _, _, rfl, hQ, ⟨_, rfl⟩, hW, hsame.mono hc hs⟩
theorem own_retNW {vm1 : Vm} {n1 : Nat} (hS : s.Since vm1 n1) (X : Stand p l e R (s.setVm vm1) m args below meth c T locs cells slots) (hn1 : n1 ≤ T.heap.size) (hx : p.tables.exec = Jvm.exec) (hlk : meth.locks = false) {pc : Nat} {Ls : Array Slot} {z w : Int32} {t : FieldType} {rest : List Value} (hret : meth.sig.returnType = some t) (ht : t = .boolean ∨ t = .byte ∨ t = .char ∨ t = .short) (hd : decode c.code pc = .ok (.ireturn, 1)) (hz : nar t z = w)
    (hQ : Q (some (.int w)) T.heap locs) (hc : cells ≤ rc) (hs : slots ≤ rs) : own_Go p e below (own_RW s below Q rc rs) (T.setTop (mkF m pc Ls (.int z :: rest))) := by
  subst hz
  obtain ⟨fs, hr, hrun, hended, hE⟩ := X.leaveW hS hn1 (v := some (.int (nar t z))) (fun h => by rw [hret] at h; cases h) hlk
  exact ⟨_, _, retN X hx hret ht hd hr, hrun, hended, _, _, rfl, hQ, hE.1, hE.2.1, hE.2.2.1, hE.2.2.2.mono hc hs⟩
theorem own_retI (X : Stand p l e R s m args below meth c T locs cells slots) (hx : p.tables.exec = Jvm.exec) (hlk : meth.locks = false) {pc : Nat} {Ls : Array Slot} {z : Int32} {rest : List Value} (hret : meth.sig.returnType = some .int) (hd : decode c.code pc = .ok (.ireturn, 1))
    (hQ : Q (some (.int z)) T.heap locs) (hc : cells ≤ rc) (hs : slots ≤ rs) : own_Go p e below (own_R s below Q rc rs) (T.setTop (mkF m pc Ls (.int z :: rest))) := by
  obtain ⟨fs, hr, hrun, hended, hW, hsame⟩ := X.leave (v := some (.int z)) (fun h => by rw [hret] at h; cases h) hlk
  exact ⟨_, _, retI X hx hret hd hr, hrun, hended, _, _, rfl, hQ, ⟨_, rfl⟩, hW, hsame.mono hc hs⟩
theorem own_retIW {vm1 : Vm} {n1 : Nat} (hS : s.Since vm1 n1) (X : Stand p l e R (s.setVm vm1) m args below meth c T locs cells slots) (hn1 : n1 ≤ T.heap.size) (hx : p.tables.exec = Jvm.exec) (hlk : meth.locks = false) {pc : Nat} {Ls : Array Slot} {z : Int32} {rest : List Value} (hret : meth.sig.returnType = some .int) (hd : decode c.code pc = .ok (.ireturn, 1))
    (hQ : Q (some (.int z)) T.heap locs) (hc : cells ≤ rc) (hs : slots ≤ rs) : own_Go p e below (own_RW s below Q rc rs) (T.setTop (mkF m pc Ls (.int z :: rest))) := by
  obtain ⟨fs, hr, hrun, hended, hE⟩ := X.leaveW hS hn1 (v := some (.int z)) (fun h => by rw [hret] at h; cases h) hlk
  exact ⟨_, _, retI X hx hret hd hr, hrun, hended, _, _, rfl, hQ, hE.1, hE.2.1, hE.2.2.1, hE.2.2.2.mono hc hs⟩
theorem own_retJ (X : Stand p l e R s m args below meth c T locs cells slots) (hx : p.tables.exec = Jvm.exec) (hlk : meth.locks = false) {pc : Nat} {Ls : Array Slot} {z : Int64} {rest : List Value} (hret : meth.sig.returnType = some .long) (hd : decode c.code pc = .ok (.lreturn, 1))
    (hQ : Q (some (.long z)) T.heap locs) (hc : cells ≤ rc) (hs : slots ≤ rs) : own_Go p e below (own_R s below Q rc rs) (T.setTop (mkF m pc Ls (.long z :: rest))) := by
  obtain ⟨fs, hr, hrun, hended, hW, hsame⟩ := X.leave (v := some (.long z)) (fun h => by rw [hret] at h; cases h) hlk
  exact ⟨_, _, retOut X hx hret rfl (Or.inr (Or.inl ⟨rfl, rfl, z, rfl⟩)) hd hr, hrun, hended, _, _, rfl, hQ, ⟨_, rfl⟩, hW, hsame.mono hc hs⟩
theorem own_retJW {vm1 : Vm} {n1 : Nat} (hS : s.Since vm1 n1) (X : Stand p l e R (s.setVm vm1) m args below meth c T locs cells slots) (hn1 : n1 ≤ T.heap.size) (hx : p.tables.exec = Jvm.exec) (hlk : meth.locks = false) {pc : Nat} {Ls : Array Slot} {z : Int64} {rest : List Value} (hret : meth.sig.returnType = some .long) (hd : decode c.code pc = .ok (.lreturn, 1))
    (hQ : Q (some (.long z)) T.heap locs) (hc : cells ≤ rc) (hs : slots ≤ rs) : own_Go p e below (own_RW s below Q rc rs) (T.setTop (mkF m pc Ls (.long z :: rest))) := by
  obtain ⟨fs, hr, hrun, hended, hE⟩ := X.leaveW hS hn1 (v := some (.long z)) (fun h => by rw [hret] at h; cases h) hlk
  exact ⟨_, _, retOut X hx hret rfl (Or.inr (Or.inl ⟨rfl, rfl, z, rfl⟩)) hd hr, hrun, hended, _, _, rfl, hQ, hE.1, hE.2.1, hE.2.2.1, hE.2.2.2.mono hc hs⟩
theorem own_retA (X : Stand p l e R s m args below meth c T locs cells slots) (hx : p.tables.exec = Jvm.exec) (hlk : meth.locks = false) {pc : Nat} {Ls : Array Slot} {w : Value} {t : FieldType} {rest : List Value} (hret : meth.sig.returnType = some t) (ht : t.isReference = true) (hw : w.isRef = true) (hn : narrow t w = w) (hd : decode c.code pc = .ok (.areturn, 1))
    (hQ : Q (some w) T.heap locs) (hc : cells ≤ rc) (hs : slots ≤ rs) : own_Go p e below (own_R s below Q rc rs) (T.setTop (mkF m pc Ls (w :: rest))) := by
  obtain ⟨fs, hr, hrun, hended, hW, hsame⟩ := X.leave (v := some w) (fun h => by rw [hret] at h; cases h) hlk
  exact ⟨_, _, retOut X hx hret hn (Or.inr (Or.inr (Or.inr (Or.inr ⟨rfl, ht, hw⟩)))) hd hr, hrun, hended, _, _, rfl, hQ, ⟨_, rfl⟩, hW, hsame.mono hc hs⟩
theorem own_retAW {vm1 : Vm} {n1 : Nat} (hS : s.Since vm1 n1) (X : Stand p l e R (s.setVm vm1) m args below meth c T locs cells slots) (hn1 : n1 ≤ T.heap.size) (hx : p.tables.exec = Jvm.exec) (hlk : meth.locks = false) {pc : Nat} {Ls : Array Slot} {w : Value} {t : FieldType} {rest : List Value} (hret : meth.sig.returnType = some t) (ht : t.isReference = true) (hw : w.isRef = true) (hn : narrow t w = w) (hd : decode c.code pc = .ok (.areturn, 1))
    (hQ : Q (some w) T.heap locs) (hc : cells ≤ rc) (hs : slots ≤ rs) : own_Go p e below (own_RW s below Q rc rs) (T.setTop (mkF m pc Ls (w :: rest))) := by
  obtain ⟨fs, hr, hrun, hended, hE⟩ := X.leaveW hS hn1 (v := some w) (fun h => by rw [hret] at h; cases h) hlk
  exact ⟨_, _, retOut X hx hret hn (Or.inr (Or.inr (Or.inr (Or.inr ⟨rfl, ht, hw⟩)))) hd hr, hrun, hended, _, _, rfl, hQ, hE.1, hE.2.1, hE.2.2.1, hE.2.2.2.mono hc hs⟩
theorem own_retV (X : Stand p l e R s m args below meth c T locs cells slots) (hx : p.tables.exec = Jvm.exec) (hlk : meth.locks = false) {pc : Nat} {Ls : Array Slot} (hret : meth.sig.returnType = none) (hd : decode c.code pc = .ok (.return_, 1))
    (hQ : Q none T.heap locs) (hc : cells ≤ rc) (hs : slots ≤ rs) : own_Go p e below (own_R s below Q rc rs) (T.setTop (mkF m pc Ls [])) := by
  obtain ⟨fs, hr, hrun, hended, hW, hsame⟩ := X.leave (v := none) (fun _ => rfl) hlk
  exact ⟨_, _, X.returnOut hx hret hd hr, hrun, hended, _, _, rfl, hQ, ⟨_, rfl⟩, hW, hsame.mono hc hs⟩
theorem own_retVW {vm1 : Vm} {n1 : Nat} (hS : s.Since vm1 n1) (X : Stand p l e R (s.setVm vm1) m args below meth c T locs cells slots) (hn1 : n1 ≤ T.heap.size) (hx : p.tables.exec = Jvm.exec) (hlk : meth.locks = false) {pc : Nat} {Ls : Array Slot} (hret : meth.sig.returnType = none) (hd : decode c.code pc = .ok (.return_, 1))
    (hQ : Q none T.heap locs) (hc : cells ≤ rc) (hs : slots ≤ rs) : own_Go p e below (own_RW s below Q rc rs) (T.setTop (mkF m pc Ls [])) := by
  obtain ⟨fs, hr, hrun, hended, hE⟩ := X.leaveW hS hn1 (v := none) (fun _ => rfl) hlk
  exact ⟨_, _, X.returnOut hx hret hd hr, hrun, hended, _, _, rfl, hQ, hE.1, hE.2.1, hE.2.2.1, hE.2.2.2.mono hc hs⟩
end OwnGo
/-- an enum constant of the start: what its static holds, its class, its ordinal -/
def own_E (Z : State) (h : Heap) (r : Addr) (C n d : String) (k : Int32) : Prop := Sta Z h C n d (.ref r) ∧ Exa Z h r C ∧ Fld Z h r "java/lang/Enum" "ordinal" "I" (.int k)
theorem own_E.ext {Z : State} {h h' : Heap} {r : Addr} {C n d : String} {k : Int32} (G : own_E Z h r C n d k) (E : Ext h h') : own_E Z h' r C n d k := ⟨G.1.ext E, G.2.1.ext E, G.2.2.ext E⟩
theorem own_E.ne {Z : State} {h : Heap} {r r' : Addr} {C n d C' n' d' : String} {k k' : Int32} (G : own_E Z h r C n d k) (G' : own_E Z h r' C' n' d' k') (q : k ≠ k') : r ≠ r' := Fld.ne G.2.2 G'.2.2 (fun e => q (Value.int.inj e))
theorem own_fldInt {args : Array Value} {s : State} {t : Term} {C n d : String} {k : Int32} {a : Addr} (h : (Jvm.Cond.eq (.field t C n d) (.int k)).value args s none s [] = some true) (ev : t.eval args s none [] s = some (.ref a)) : s.fieldOf? a C n d = some (.int k) := by
  obtain ⟨x, y, h1, h2, h3, h4⟩ := cmp_v (Or.inl h)
  have h5 : (Term.int k).eval args s none [] s = some (.int k) := Term.int_eval k
  cases h5.symm.trans h2
  obtain ⟨z, rfl⟩ := h4
  have h6 : z = k := gotT (Cond.eq_ints h1 h5) h
  subst h6
  rw [← fld_at ev]; exact h1
theorem own_eq1 {x y : Int32} (h : x = y) : if_icmp.holds .eq x y = true := (teq h).1

def own_lo (q : Int32) : Int32 := nar .byte ((q >>> ((0 : Int32) &&& 31)).toInt8.toInt32)
def own_hi (q : Int32) : Int32 := nar .byte ((q >>> ((8 : Int32) &&& 31)).toInt8.toInt32)
theorem own_gc (q : Int32) (h0 : ¬ q < 0) (h1 : ¬ (65535 : Int32) < q) : nar .char (((((own_lo q) &&& (255 : Int32)) <<< ((0 : Int32) &&& 31)) ||| (((own_hi q) &&& (255 : Int32)) <<< ((8 : Int32) &&& 31))).toUInt32.toUInt16.toUInt32.toInt32) = q := by
  have e0 : (0 : Int32).toInt = 0 := by decide
  have e1 : (65535 : Int32).toInt = 65535 := by decide
  rw [Int32.lt_iff_toInt_lt, e0] at h0
  rw [Int32.lt_iff_toInt_lt, e1] at h1
  have a1 := c_ishr q 0 0 (by decide)
  have a2 := c_ishr q 8 8 (by decide)
  have a3 := c_i2b (q >>> ((0 : Int32) &&& 31))
  have a4 := c_i2b (q >>> ((8 : Int32) &&& 31))
  have b3 := c_i2b ((q >>> ((0 : Int32) &&& 31)).toInt8.toInt32)
  have b4 := c_i2b ((q >>> ((8 : Int32) &&& 31)).toInt8.toInt32)
  have m1 := c_mask (own_lo q) 255 8 (by decide) (by decide)
  have m2 := c_mask (own_hi q) 255 8 (by decide) (by decide)
  have s1 := c_ishl ((own_lo q) &&& (255 : Int32)) 0 0 (by decide)
  have s2 := c_ishl ((own_hi q) &&& (255 : Int32)) 8 8 (by decide)
  have d1 : own_lo q = ((q >>> ((0 : Int32) &&& 31)).toInt8.toInt32).toInt8.toInt32 := rfl
  have d2 : own_hi q = ((q >>> ((8 : Int32) &&& 31)).toInt8.toInt32).toInt8.toInt32 := rfl
  rw [← d1] at b3
  rw [← d2] at b4
  have t1 := Int32.toInt_lt ((((own_lo q) &&& (255 : Int32)) <<< ((0 : Int32) &&& 31)))
  have t2 := Int32.le_toInt ((((own_lo q) &&& (255 : Int32)) <<< ((0 : Int32) &&& 31)))
  have t3 := Int32.toInt_lt ((((own_hi q) &&& (255 : Int32)) <<< ((8 : Int32) &&& 31)))
  have t4 := Int32.le_toInt ((((own_hi q) &&& (255 : Int32)) <<< ((8 : Int32) &&& 31)))
  generalize ((own_lo q) &&& (255 : Int32)) <<< ((0 : Int32) &&& 31) = x at *
  generalize ((own_hi q) &&& (255 : Int32)) <<< ((8 : Int32) &&& 31) = y at *
  have o1 := c_or' x y 8 (by decide) 256 rfl
  have t5 := Int32.toInt_lt (x ||| y)
  have t6 := Int32.le_toInt (x ||| y)
  have c1 := c_i2c (x ||| y)
  have c2 := c_i2c ((x ||| y).toUInt32.toUInt16.toUInt32.toInt32)
  have d3 : nar .char ((x ||| y).toUInt32.toUInt16.toUInt32.toInt32) = ((x ||| y).toUInt32.toUInt16.toUInt32.toInt32).toUInt32.toUInt16.toUInt32.toInt32 := rfl
  rw [← Int32.toInt_inj, d3]
  simp only [show ((2 ^ 8 : Nat) : Int) = 256 from rfl, show ((2 ^ 0 : Nat) : Int) = 1 from rfl, Int.mul_one, Int.ediv_one] at *
  omega
theorem own_i2c (x : Int32) : ¬ nar .char (x.toUInt32.toUInt16.toUInt32.toInt32) < 0 ∧ ¬ (65535 : Int32) < nar .char (x.toUInt32.toUInt16.toUInt32.toInt32) := by
  have e0 : (0 : Int32).toInt = 0 := by decide
  have e1 : (65535 : Int32).toInt = 65535 := by decide
  have c2 := c_i2c (x.toUInt32.toUInt16.toUInt32.toInt32)
  rw [Int32.lt_iff_toInt_lt, Int32.lt_iff_toInt_lt, e0, e1]
  show ¬ (x.toUInt32.toUInt16.toUInt32.toInt32).toUInt32.toUInt16.toUInt32.toInt32.toInt < 0 ∧ ¬ (65535 : Int) < (x.toUInt32.toUInt16.toUInt32.toInt32).toUInt32.toUInt16.toUInt32.toInt32.toInt
  omega
abbrev own_EL : List (String × Nat) := [("java/lang/String", 7)]
section OwnH
variable {p : Program} {l : Launch} {e : Env} {R : Room} {s : State} {m : MethodId} {args : Array Value} {below : List Frame} {Z : State} {a0 : Array Value} {EL : List (String × Nat)} {h : Heap} {vm0 : Vm}
theorem own_backH {y : MethodName} {bytes : ByteArray} {maxL : Nat} {ret : Option FieldType} {rm : Room} {len W : Nat} {as' : Array Value} {Q : Option Value → Heap → List Loc → Prop}
    (hM : MetFree l y (head1 [Cond.code y bytes maxL ret] rm) (fun a U => a = as' ∧ Z.Warmed39 U.vm ∧ U.heap = h ∧ CHv Z EL U.vm h) (fun _ _ _ _ _ => True) (fun _ U o U' => ∃ v L, o = .returned v ∧ Q v U'.heap L ∧ ReturnedEndW U o U' L rm.cells rm.slots))
    (hZ : Z.Warmed39 vm0) (wc : (Cond.code y bytes maxL ret).before a0 Z = true) (wz : (Cond.initialized y.cls).before a0 Z = true) (hf : rm.frames + 1 ≤ R.frames) (hl : W + (maxL + 11) + rm.locals ≤ R.locals) (hEL : EW Z a0 EL) (H : CHv Z EL vm0 h) :
    BackS l R p e below (s.setVm vm0) args y len W (fun A a => a = as' ∧ A.U.heap = h ∧ A.cells + rm.cells ≤ R.cells ∧ A.slots + rm.slots ≤ R.slots)
      (fun A _ v B => ∃ L, Q v B.U.heap L ∧ B.locs = A.locs ++ L ∧ B.cells = A.cells + rm.cells ∧ B.slots = A.slots + rm.slots) :=
  BackS.of_freeW (bytes := bytes) (maxL := maxL) (ret := ret) (E := fun _ _ o t L k n => k = rm.cells ∧ n = rm.slots ∧ ∃ v, o = .returned v ∧ Q v t.heap L) hM hf hl
    (fun m meth c A a Y hp => have hU : Z.Warmed39 A.U.vm := wtrans (s := s.setVm vm0) hZ Y.warmed
      ⟨by show (Cond.and _ .tt).before a A.U = true; rw [Cond.before_and, mv hU wc]; rfl, mv hU wc, mv hU wz, hp.2.2.1, hp.2.2.2⟩)
    (fun m meth c A a g mk Y hp => ⟨hp.1, wtrans (s := s.setVm vm0) hZ Y.warmed, hp.2.1, (CHv.at Y hZ hEL H).1⟩) (fun _ _ _ _ _ _ _ _ _ => trivial)
    (fun _ _ _ _ ⟨v, L, h1, h2, h3⟩ => ⟨L, _, _, h3, rfl, rfl, v, h1, h2⟩)
    (fun m meth c A a g mk v t L k n Y hp _ _ ⟨e1, e2, v', e3, e4⟩ => by cases e3; subst e1 e2; exact ⟨L, e4, rfl, rfl, rfl⟩)
theorem own_gcB {n0 len W : Nat} {a : Addr} (hZ : Z.Warmed39 s.vm) (wc : (Cond.codeSync Jvm.RoadKit.gcN gcB 1 (some (.object "java/lang/Throwable"))).before a0 Z = true) (wi : (Cond.instanceMethod Jvm.RoadKit.gcN).before a0 Z = true) (wz : (Cond.initialized "java/lang/Throwable").before a0 Z = true) (wf : (Cond.fieldLink "java/lang/Throwable" 7 "java/lang/Throwable" "cause" "Ljava/lang/Throwable;").before a0 Z = true)
    (N : Unt h a) (F : Fld Z h a "java/lang/Throwable" "cause" "Ljava/lang/Throwable;" (.ref a)) (hf : 0 + 1 ≤ R.frames) (hl : W + (1 + 11) + 0 ≤ R.locals) :
    Back l R p e below s args Jvm.RoadKit.gcN len W (fun A as => as = #[.ref a] ∧ A.U.heap = h ∧ A.cells + 0 ≤ R.cells ∧ A.slots + 0 ≤ R.slots)
      (fun A _ v B => ∃ L, (v = some .null ∧ Fr n0 L ∧ B.U.heap = h) ∧ B.locs = A.locs ++ L ∧ B.cells = A.cells + 0 ∧ B.slots = A.slots + 0) := by
  intro m meth c A g ig mk a' X hg hsize hdg hW hn hp
  obtain ⟨v, B, X', ⟨q1, q2, q3, q4, q5⟩, st⟩ := gcBackPure (rm := ({ frames := 0, cells := 0, slots := 0, locals := 0 } : Room)) hZ wc wi wz wf N F rfl hf hl m meth c A g ig mk a' X hg hsize hdg hW hn hp
  exact ⟨v, B, X', ⟨[], ⟨by rw [q1, gcv_self], Fr.nil n0, q2⟩, by rw [q3, List.append_nil], q4, q5⟩, st⟩
end OwnH
theorem own_staInt {args : Array Value} {s : State} {C n d : String} {k : Int32} (h : (Jvm.Cond.eq (.static C n d) (.int k)).value args s none s [] = some true) : (Term.static C n d).eval args s none [] s = some (.int k) := by
  obtain ⟨x, y, h1, h2, h3, h4⟩ := cmp_v (Or.inl h)
  have h5 : (Term.int k).eval args s none [] s = some (.int k) := Term.int_eval k
  cases h5.symm.trans h2
  obtain ⟨z, rfl⟩ := h4
  have h6 : z = k := gotT (Cond.eq_ints h1 h5) h
  subst h6
  exact h1
/-- the JDK's statics that the road reads -/
def own_St (Z : State) (cz : Int32) : Prop := Sta Z Z.heap "java/lang/String" "COMPACT_STRINGS" "Z" (.int cz) ∧ ¬ cz = (0 : Int32) ∧ Sta Z Z.heap "java/lang/StringUTF16" "$assertionsDisabled" "Z" (.int 1) ∧ Sta Z Z.heap "java/lang/StringUTF16" "HI_BYTE_SHIFT" "I" (.int 0) ∧ Sta Z Z.heap "java/lang/StringUTF16" "LO_BYTE_SHIFT" "I" (.int 8)
abbrev own_W (args : Array Value) (s : State) : Prop := ∀ d ∈ tables_1, xOk d = true → d.holds args s none s [] = true
theorem own_T {args : Array Value} {s : State} {pl : Platform} (howns : pl.frameOwnsMonitors = true) (hfin : pl.finalization = false) (hpl : pl.magicAccessors = ({} : Platform).magicAccessors) (W : own_W args s) :
    ∃ T : ThrowableC, T.Links pl s ∧ s.vm.findClass tN = some T.cT ∧ s.methodNamed? tFill = some T.fill ∧ s.methodNamed? tFill0 = some T.fill0 ∧ s.fieldFound? tN "stackTrace" steD = some (T.cT, T.kT, T.i17, T.fStack) ∧ s.fieldFound? tN "UNASSIGNED_STACK" steD = some (T.cT, T.kT, T.i13, T.fUnassigned) ∧ T.fStack.type = .array (.object "java/lang/StackTraceElement") ∧ ∃ cell, s.heap[T.aS]? = some cell ∧ cell.vm.isStatics = true := by
  obtain ⟨⟨c, j0⟩, m0, n0, n1, n2, n3, n4, n5⟩ := Cond.native_spec (W _ (List.mem_of_getElem? (i := 44) rfl) rfl)
  have hc : s.vm.findClass tN = some c := findClass_of_methodNamed n0
  obtain ⟨k, hk, hnm⟩ := Vm.findClass_spec hc
  obtain ⟨_, k1, _, _, hk1, _, _, hord, _, hni⟩ := Cond.superclass_spec hc (W _ (List.mem_of_getElem? (i := 41) rfl) rfl)
  cases Option.some.inj (hk.symm.trans hk1)
  obtain ⟨jf, mf, f1, f2, f3, f4, f5, -, -⟩ := Cond.ownMethod (x := tFill) hc hk (W _ (List.mem_of_getElem? (i := 36) rfl) rfl)
  obtain ⟨mf', cf0, g1, g2, g3, g4, g5, g6, -, g8⟩ := Cond.codeSync_spec f1 (W _ (List.mem_of_getElem? (i := 42) rfl) rfl)
  cases Option.some.inj (f2.symm.trans g1)
  obtain ⟨j0', m0', o1, o2, o3, o4, o5, o6, o7⟩ := Cond.ownMethod (x := tFill0) hc hk (W _ (List.mem_of_getElem? (i := 43) rfl) rfl)
  obtain rfl : j0 = j0' := by have := Option.some.inj (n0.symm.trans o1); simpa using this
  cases Option.some.inj (n1.symm.trans o2)
  obtain ⟨jz, mz, p1, p2, p3, -, -, -, -⟩ := Cond.ownMethod (x := tInit0) hc hk (W _ (List.mem_of_getElem? (i := 45) rfl) rfl)
  obtain ⟨mz', cz, q1, q2, q3, q4, -, q6, -, -⟩ := Cond.code_spec p1 (W _ (List.mem_of_getElem? (i := 46) rfl) rfl)
  cases Option.some.inj (p2.symm.trans q1)
  obtain ⟨mo, mm, r1, r2, r3, r4⟩ := Cond.instanceMethod_spec (W _ (List.mem_of_getElem? (i := 24) rfl) rfl)
  obtain ⟨mm', co, t1, t2, t3, t4, -, t6, -, t8⟩ := Cond.code_spec r1 (W _ (List.mem_of_getElem? (i := 25) rfl) rfl)
  cases Option.some.inj (r2.symm.trans t1)
  obtain ⟨ko, hko, hno⟩ := Vm.findClass_spec (findClass_of_methodNamed r1)
  obtain ⟨r5, r6⟩ := name_of_methodNamed r1 r2
  obtain ⟨ci1, e1, cf, l1, x1, hcf, y1⟩ := Cond.linkedMethod hc hk r1 (W _ (List.mem_of_getElem? (i := 23) rfl) rfl) pl hpl
  obtain ⟨ci27, e27, cfa, l27, x27, hcfa, y27⟩ := Cond.linkedMethod hc hk f1 (W _ (List.mem_of_getElem? (i := 34) rfl) rfl) pl hpl
  cases Option.some.inj (hcf.symm.trans hcfa)
  obtain ⟨ci202, e202, cfb, l202, x202, hcfb, y202⟩ := Cond.linkedMethod hc hk n0 (W _ (List.mem_of_getElem? (i := 47) rfl) rfl) pl hpl
  cases Option.some.inj (hcf.symm.trans hcfb)
  obtain ⟨ci7, i7, f7, a7, b7, c7, d7, h7, -, -, -⟩ := Cond.ownField (t := .object tN) hc hk (by decide +kernel) (W _ (List.mem_of_getElem? (i := 26) rfl) rfl) (W _ (List.mem_of_getElem? (i := 27) rfl) rfl) pl hpl
  obtain ⟨ci17, i17, f17, a17, b17, c17, d17, h17, u17, v17, w17⟩ := Cond.ownField (t := .array (.object "java/lang/StackTraceElement")) hc hk (by decide +kernel) (W _ (List.mem_of_getElem? (i := 29) rfl) rfl) (W _ (List.mem_of_getElem? (i := 30) rfl) rfl) pl hpl
  obtain ⟨ci24, i24, f24, a24, b24, c24, d24, h24, u24, -, w24⟩ := Cond.ownField (t := .object "java/util/List") hc hk (by decide +kernel) (W _ (List.mem_of_getElem? (i := 32) rfl) rfl) (W _ (List.mem_of_getElem? (i := 33) rfl) rfl) pl hpl
  obtain ⟨ci13, i13, f13, aS, cS, a13, b13, c13, d13, -, -, hst, hcS, hiS, -, -, w13⟩ := Cond.ownStatic (t := .array (.object "java/lang/StackTraceElement")) hc hk (by decide +kernel) (W _ (List.mem_of_getElem? (i := 28) rfl) rfl) (W _ (List.mem_of_getElem? (i := 54) rfl) rfl) pl hpl
  obtain ⟨ci20, i20, f20, _, _, a20, b20, c20, d20, -, -, -, -, -, -, -, -⟩ := Cond.ownStatic (t := .object "java/util/List") hc hk (by decide +kernel) (W _ (List.mem_of_getElem? (i := 31) rfl) rfl) (W _ (List.mem_of_getElem? (i := 55) rfl) rfl) pl hpl
  obtain ⟨_, _, _, _, _, fM, _, _, _, hsM, hfM, _⟩ := Cond.lays_spec (W _ (List.mem_of_getElem? (i := 57) rfl) rfl)
  obtain ⟨cX, kX, _, _, _, _, hcX, hkX, -⟩ := Cond.lays_spec (W _ (List.mem_of_getElem? (i := 30) rfl) rfl)
  obtain ⟨-, z17, zz17, zn17⟩ := Cond.laysAt hcX hkX w17 (W _ (List.mem_of_getElem? (i := 30) rfl) rfl)
  obtain ⟨-, z24, zz24, zn24⟩ := Cond.laysAt hcX hkX w24 (W _ (List.mem_of_getElem? (i := 33) rfl) rfl)
  have hap := Cond.laysApart zz17 zz24 zn17 zn24 (by rw [u17, u24]; decide)
  have pF : mf.sig.parameters = [] := by
    have h : parseMethodDescriptor tFill.desc = some mf.sig := g8; rw [show parseMethodDescriptor tFill.desc = some ⟨[], some (.object tN)⟩ from by decide +kernel] at h; rw [← Option.some.inj h]
  have p0 : m0.sig.parameters = [.int] := by
    have h : parseMethodDescriptor tFill0.desc = some m0.sig := n5; rw [show parseMethodDescriptor tFill0.desc = some ⟨[.int], some (.object tN)⟩ from by decide +kernel] at h; rw [← Option.some.inj h]
  have pO : mm.sig.parameters.length = 0 := by
    have h : parseMethodDescriptor oInit.desc = some mm.sig := t8; rw [show parseMethodDescriptor oInit.desc = some ⟨[], none⟩ from by decide +kernel] at h; rw [← Option.some.inj h]; rfl
  refine ⟨{ cT := c, kT := k, cO := c, aS := aS, fillIdx := jf, fill0Idx := j0, initSIdx := jz, obj := mo, kObj := ko, methFill := mf, methFill0 := m0, methInitS := mz, methObj := mm, codeFill := cf0, codeInitS := cz, codeObj := co, fBack := f7, fDepth := f7, fStack := f17, fCause := f7, fSupp := f24, fMsg := fM, fUnassigned := f13, fSentinel := f20, cfT := cf, ci1 := ci1, n1 := e1, ci27 := ci27, n27 := e27, ci202 := ci202, n202 := e202, ci7 := ci7, i7 := i7, ci13 := ci13, i13 := i13, ci17 := ci17, i17 := i17, ci20 := ci20, i20 := i20, ci24 := ci24, i24 := i24 }, ?_, hc, f1, n0, w17, w13, v17, cS, hcS, hiS⟩
  constructor
  case owns => exact howns
  case noFinalization => exact hfin
  case objFound => rw [r6]; exact lookupSpecial_of_named r1 r2 r3
  case boot => exact Vm.findClass_boot hc hk
  case initialized => exact Cond.initialized_spec hc hk (W _ (List.mem_of_getElem? (i := 21) rfl) rfl)
  all_goals first | assumption | exact hnm | exact hno
theorem own_fill {p : Program} {l : Launch} {e : Env} {R : Room} {s : State} {args : Array Value} {below : List Frame} {Z : State} {h : Heap} {len W0 n0 : Nat} (hexec : p.tables.exec = Jvm.exec) (had : l.admits e) (hl : l.stackTraces = true) (hZ : Z.Warmed39 s.vm) (W : own_W args s)
    (hTK : s.vm.MethodsKnown) (hBelow : s.vm.FramesKnown below) {a : Addr} (ag : n0 ≤ a) (E : Exa Z h a "com/example/portunus/portunus/CommandFailure") (N : Unt h a) (FB : Fld Z h a tN "backtrace" Jvm.Free.Exc.obD .null) {u : Addr} (FS : Fld Z h a tN "stackTrace" steD (.ref u)) (SU : Sta Z h tN "UNASSIGNED_STACK" steD (.ref u)) (hf : 2 < R.frames) (hlo : W0 + 42 ≤ R.locals) :
    Back l R p e below s args tFill len W0 (fun A as => as = #[.ref a] ∧ A.U.heap = h ∧ A.cells + 1 ≤ R.cells ∧ A.slots + 2752 ≤ R.slots)
      (fun A _ v B => ∃ L, (v = some (.ref a) ∧ Fr n0 L ∧ Keep h B.U.heap [a] ∧ Unt B.U.heap a ∧ ∀ O n d w, Fld Z h a O n d w → Jvm.RoadKit.slotOf Z tN "backtrace" Jvm.Free.Exc.obD ≠ Jvm.RoadKit.slotOf Z O n d → Jvm.RoadKit.slotOf Z tN "depth" "I" ≠ Jvm.RoadKit.slotOf Z O n d → Jvm.RoadKit.slotOf Z tN "stackTrace" steD ≠ Jvm.RoadKit.slotOf Z O n d → Fld Z B.U.heap a O n d w) ∧ B.locs = A.locs ++ L ∧ B.cells = A.cells + 1 ∧ B.slots = A.slots + 2752) := by
  have hpl : e.platform.magicAccessors = ({} : Platform).magicAccessors := by rw [had.platform]
  obtain ⟨T, L, tf, tF, t0, t17, t13, ty17, cS, hcS, hiS⟩ := own_T (args := args) (s := s) (pl := e.platform) (by rw [had.platform]) (by rw [had.platform]) hpl W
  obtain ⟨cell, k, h1, h2, h3, h4, h5⟩ := E
  obtain ⟨cell', u1, u2, u3⟩ := N
  cases h1.symm.trans u1
  have hal : Z.vm.Alike s.vm := hZ.alike
  have hfound : s.vm.findClass "com/example/portunus/portunus/CommandFailure" = some cell.cls := by rw [hal.findClass]; exact h2
  obtain ⟨kX, hkX, ekX⟩ := hal.2.2 _ _ h3
  have ek1 : kX.kind = k.kind := by rw [ekX]
  have ek2 : kX.instanceTypes = k.instanceTypes := by rw [ekX]
  obtain ⟨c4, k4, i1, i2, i3, -⟩ := Cond.instantiable_spec (W _ (List.mem_of_getElem? (i := 5) rfl) rfl)
  cases hfound.symm.trans i1
  cases hkX.symm.trans i2
  have hsz : cell.slots.size = kX.instanceTypes.size := by rw [ek2]; exact h5 (by rw [← ek1]; exact i3)
  have tk : ∀ {f : Field} {v : Value}, kX.instanceTypes[f.slot]? = some f.type → fits f.type v = true → Jvm.Takes s cell f v := fun {f v} g1 g2 => by
    obtain ⟨q1, q2⟩ := Takes.of_laid (v := v) hkX i3 g1 g2
    exact ⟨by rw [hsz]; simpa using q1, by rw [u2]; exact q2⟩
  obtain ⟨tyS, -⟩ := Cond.laysAt hfound hkX t17 (W _ (List.mem_of_getElem? (i := 30) rfl) rfl)
  obtain ⟨ci198, i198, fB, hk198, hg198, ha198, hsB, -, hnB, htB, hffB⟩ := Cond.ownField (t := .object "java/lang/Object") tf L.cls (by decide +kernel) (W _ (List.mem_of_getElem? (i := 52) rfl) rfl) (W _ (List.mem_of_getElem? (i := 58) rfl) rfl) e.platform hpl
  obtain ⟨tyB, -⟩ := Cond.laysAt hfound hkX hffB (W _ (List.mem_of_getElem? (i := 58) rfl) rfl)
  obtain ⟨_, _, cD, kD, iD, fD, _, _, hffD, hstD, _⟩ := Cond.lays_spec (W _ (List.mem_of_getElem? (i := 59) rfl) rfl)
  cases Option.some.inj ((Cond.lays_declared (W _ (List.mem_of_getElem? (i := 59) rfl) rfl) hffD).symm.trans tf)
  obtain ⟨hkD, hatD⟩ := State.fieldFound?_spec hffD
  cases Option.some.inj (hkD.symm.trans L.cls)
  obtain ⟨hnD, htD⟩ := State.fieldFound?_type hffD (t := .int) (by decide +kernel)
  obtain ⟨tyD, -⟩ := Cond.laysAt hfound hkX hffD (W _ (List.mem_of_getElem? (i := 59) rfl) rfl)
  have hfb := Cond.soleField_find tf L.cls (W _ (List.mem_of_getElem? (i := 39) rfl) rfl) ha198 hnB hsB
  have hfd := Cond.soleField_find tf L.cls (W _ (List.mem_of_getElem? (i := 40) rfl) rfl) hatD hnD hstD
  obtain ⟨comp, cO, kO, -, -, hkO, hkindO, hO⟩ := Cond.arrayOver_spec (W _ (List.mem_of_getElem? (i := 38) rfl) rfl)
  have same : ∀ {O n d : String} {f : Field} {w : Value} {cc i : Nat} {kk : Class}, s.fieldFound? O n d = some (cc, kk, i, f) → Fld Z h a O n d w → cell.slots[f.slot]? = some w := fun {O n d f w cc i kk} g1 g2 => by
    obtain ⟨c2, cf, k2, j, f2, e1, e2, -, -, -, -, e7⟩ := g2
    cases h1.symm.trans e1
    obtain ⟨_, _, _, e3⟩ := Jvm.Free.BdW.found_ride hal ⟨_, _, _, e2⟩
    cases g1.symm.trans e3
    exact e7
  have hvS := same t17 FS
  have hvB := same hffB FB
  obtain ⟨cf, iU, kU, fU, stU, cellU, w1, w2, w3, w4, w5, w6, w7⟩ := SU
  obtain ⟨kU', w8, w9⟩ := State.fieldFound?_setVm hal w1
  cases (show s.fieldFound? tN "UNASSIGNED_STACK" steD = some (cf, kU', iU, fU) from w8).symm.trans t13
  have hst : T.kT.statics = kU.statics := by rw [w9]
  cases Option.some.inj ((w4.symm.trans hst.symm).trans L.statics)
  have hneS : T.aS ≠ a := fun z => by rw [z, h1] at w5; cases w5; rw [u2] at w6; cases w6
  have hsel0 : selectMethod e.platform s.vm cell.cls T.fill0 = .method T.fill0 := by
    obtain ⟨c2, r2, m2, q1, q2, q3, q4, -⟩ := Cond.selects_spec (W _ (List.mem_of_getElem? (i := 56) rfl) rfl)
    cases Option.some.inj (q1.symm.trans hfound)
    cases Option.some.inj (q2.symm.trans (State.methodFound?_of_named t0 (by decide)))
    cases Option.some.inj (q3.symm.trans t0)
    rw [Launch.admits_selectMethod had]; exact q4
  intro m meth c A g ig mk as X hg hsize hdg hW hn hp
  obtain ⟨g1, g2, g3, g4⟩ := hp
  obtain ⟨v, B, X', ⟨hv, vm', lines, hln, -, hU, hL, hc, hs⟩, st⟩ := Jvm.Free.Str.fillPays (l := l) (R := R) (len := len) (W := W0) (sargs := args) hexec (by rw [had.platform]; exact hl) T L tF (u0 := ⟨.ref u, rfl⟩) (fun q => nomatch q) (self := a) (cell := cell) (cellS := cellU)
    (fun _ => by rw [u2]; simp) (by rw [u2]; simp) (by rw [u3]) (by rw [u3]) hvS hsel0 hneS (fun z => by rw [z] at w6; cases w6) w7 (tk tyS (by rw [ty17]; rfl)) ⟨{ ci198 := ci198, i198 := i198, fBack := fB }, ⟨hk198, hg198, ha198, hsB⟩, hvB⟩ hTK hBelow tf hO hkO hkindO hfb hfd
    (fun x => tk tyB (by rw [htB]; rfl)) (fun x => tk tyD (by rw [htD]; rfl)) hf hlo m meth c A g ig mk as X hg hsize hdg hW hn ⟨g1, g3, g4, by rw [g2]; exact h1, by rw [g2]; exact w5⟩
  have hsl : (traceHolder cO lines).slots.size ≤ 2752 := traceHolder_size_le cO hln
  have hlt : a < h.size := (Array.getElem?_eq_some_iff.mp h1).1
  have hheap : B.U.heap = (h.push (traceHolder cO lines)).setIfInBounds a (Jvm.Free.Str.filledOn T.toThrowableT fB fD cell ⟨.ref u, rfl⟩ A.U.heap.size lines.length.toInt32) := by rw [hU, ← g2]; rfl
  generalize hC : Jvm.Free.Str.filledOn T.toThrowableT fB fD cell ⟨.ref u, rfl⟩ A.U.heap.size lines.length.toInt32 = C at hheap
  have c1 : C.cls = cell.cls := by rw [← hC]; rfl
  have c2 : C.vm = cell.vm := by rw [← hC]; rfl
  have c3 : C.monitor = cell.monitor := by rw [← hC]; rfl
  have c4 : C.slots.size = cell.slots.size := by rw [← hC]; simp [Jvm.Free.Str.filledOn, Cell.setSlot]
  have c5 : ∀ i, fB.slot ≠ i → fD.slot ≠ i → T.fStack.slot ≠ i → C.slots[i]? = cell.slots[i]? := fun i q1 q2 q3 => by rw [← hC]; simp [Jvm.Free.Str.filledOn, Cell.setSlot, Array.getElem?_setIfInBounds, q1, q2, q3]
  have ha : B.U.heap[a]? = some C := by rw [hheap]; exact Array.getElem?_setIfInBounds_self_of_lt (by show a < (h.push _).size; rw [Array.size_push]; exact Nat.lt_succ_of_lt hlt)
  have hoth : ∀ (x : Addr) (cl : Cell), h[x]? = some cl → x ≠ a → B.U.heap[x]? = some cl := fun x cl q1 q2 => by
    have hx : x < h.size := (Array.getElem?_eq_some_iff.mp q1).1
    rw [hheap, Array.getElem?_setIfInBounds_ne (Ne.symm q2), Array.getElem?_push_lt hx, ← Array.getElem?_eq_getElem hx]; exact q1
  have sl : ∀ {n d : String} {f : Field} {cc i : Nat} {kk : Class}, s.fieldFound? tN n d = some (cc, kk, i, f) → Jvm.RoadKit.slotOf Z tN n d = f.slot := fun {n d f cc i kk} q => by
    obtain ⟨_, _, _, e3⟩ := Jvm.Free.BdW.found_ride (U := s) (U' := Z) hal.symm ⟨_, _, _, q⟩
    simp [Jvm.RoadKit.slotOf, e3]
  refine ⟨v, ⟨B.U, B.locs, A.cells + 1, A.slots + 2752⟩, ?_, ⟨[⟨a, fB.slot⟩, ⟨a, fD.slot⟩, ⟨a, T.fStack.slot⟩], ⟨hv, ?_, ⟨?_, ?_, ?_⟩, ⟨C, ha, by rw [c2]; exact u2, by rw [c3]; exact u3⟩, ?_⟩, hL, rfl, rfl⟩, st⟩
  · exact X'.more (Nat.le_of_eq hc) (by rw [hs]; exact Nat.add_le_add_left hsl _)
  · intro y hy
    simp only [List.mem_cons, List.not_mem_nil, or_false] at hy
    rcases hy with rfl | rfl | rfl <;> exact ag
  · show h.size ≤ B.U.heap.size
    rw [hheap, Array.size_setIfInBounds, Array.size_push]; exact Nat.le_succ _
  · intro x cl q1 q2
    exact hoth x cl q1 (fun z => q2 (by rw [z]; exact List.mem_cons_self ..))
  · intro x cl q1
    by_cases z : x = a
    · subst z; cases q1.symm.trans h1; exact ⟨C, ha, c1, c2, c4⟩
    · exact ⟨cl, hoth x cl q1 z, rfl, rfl, rfl⟩
  · intro O n d w F q1 q2 q3
    obtain ⟨c', cf', k', j, f, e1, e2, e3, e4, e5, e6, e7⟩ := F
    cases h1.symm.trans e1
    rw [sl hffB, show Jvm.RoadKit.slotOf Z O n d = f.slot from by simp [Jvm.RoadKit.slotOf, e2]] at q1
    rw [sl hffD, show Jvm.RoadKit.slotOf Z O n d = f.slot from by simp [Jvm.RoadKit.slotOf, e2]] at q2
    rw [sl t17, show Jvm.RoadKit.slotOf Z O n d = f.slot from by simp [Jvm.RoadKit.slotOf, e2]] at q3
    exact ⟨C, cf', k', j, f, ha, e2, e3, by rw [c2]; exact e4, by rw [c2]; exact e5, by rw [c1]; exact e6, by rw [c5 _ q1 q2 q3]; exact e7⟩

theorem d19_0 : decode jdk_52_method_3_code 0 = .ok (.iload_n 0, 1) := by decide +kernel
theorem d19_1 : decode jdk_52_method_3_code 1 = .ok (.ifCond .ge 11, 3) := by decide +kernel
theorem d19_4 : decode jdk_52_method_3_code 4 = .ok (.new 17, 3) := by decide +kernel
theorem d19_7 : decode jdk_52_method_3_code 7 = .ok (.dup, 1) := by decide +kernel
theorem d19_8 : decode jdk_52_method_3_code 8 = .ok (.invokespecial 19, 3) := by decide +kernel
theorem d19_11 : decode jdk_52_method_3_code 11 = .ok (.athrow, 1) := by decide +kernel
theorem d19_12 : decode jdk_52_method_3_code 12 = .ok (.iload_n 0, 1) := by decide +kernel
theorem d19_13 : decode jdk_52_method_3_code 13 = .ok (.ldc 20, 2) := by decide +kernel
theorem d19_15 : decode jdk_52_method_3_code 15 = .ok (.if_icmp .lt 40, 3) := by decide +kernel
theorem d19_18 : decode jdk_52_method_3_code 18 = .ok (.new 21, 3) := by decide +kernel
theorem d19_21 : decode jdk_52_method_3_code 21 = .ok (.dup, 1) := by decide +kernel
theorem d19_22 : decode jdk_52_method_3_code 22 = .ok (.new 23, 3) := by decide +kernel
theorem d19_25 : decode jdk_52_method_3_code 25 = .ok (.dup, 1) := by decide +kernel
theorem d19_26 : decode jdk_52_method_3_code 26 = .ok (.invokespecial 25, 3) := by decide +kernel
theorem d19_29 : decode jdk_52_method_3_code 29 = .ok (.ldc 26, 2) := by decide +kernel
theorem d19_31 : decode jdk_52_method_3_code 31 = .ok (.invokevirtual 28, 3) := by decide +kernel
theorem d19_34 : decode jdk_52_method_3_code 34 = .ok (.iload_n 0, 1) := by decide +kernel
theorem d19_35 : decode jdk_52_method_3_code 35 = .ok (.invokevirtual 32, 3) := by decide +kernel
theorem d19_38 : decode jdk_52_method_3_code 38 = .ok (.ldc 35, 2) := by decide +kernel
theorem d19_40 : decode jdk_52_method_3_code 40 = .ok (.invokevirtual 28, 3) := by decide +kernel
theorem d19_43 : decode jdk_52_method_3_code 43 = .ok (.ldc 20, 2) := by decide +kernel
theorem d19_45 : decode jdk_52_method_3_code 45 = .ok (.invokevirtual 32, 3) := by decide +kernel
theorem d19_48 : decode jdk_52_method_3_code 48 = .ok (.invokevirtual 37, 3) := by decide +kernel
theorem d19_51 : decode jdk_52_method_3_code 51 = .ok (.invokespecial 41, 3) := by decide +kernel
theorem d19_54 : decode jdk_52_method_3_code 54 = .ok (.athrow, 1) := by decide +kernel
theorem d19_55 : decode jdk_52_method_3_code 55 = .ok (.iload_n 0, 1) := by decide +kernel
theorem d19_56 : decode jdk_52_method_3_code 56 = .ok (.iconst 1, 1) := by decide +kernel
theorem d19_57 : decode jdk_52_method_3_code 57 = .ok (.ishl, 1) := by decide +kernel
theorem d19_58 : decode jdk_52_method_3_code 58 = .ok (.ireturn, 1) := by decide +kernel
theorem ef_rmNL2 (m : MethodId) (x0 : Int32) : entryFrame m #[(.int x0)] 1 = mkF m 0 #[.val (.int x0)] [] := by first | (simp [entryFrame, mkF, argsToLocals, Value.category, maxLocals]; done) | rfl
def Q_rmNL2 (Z : State)  (h0 : Heap) (n0 : Nat) (v : Option Value) (h : Heap) (L : List Loc) : Prop := v = some (.int 4) ∧ Fr n0 L ∧ h = h0
set_option maxRecDepth 65536 in
set_option maxHeartbeats 40000000 in
theorem rmNL2 (l : Launch) (Z : State) (a0 : Array Value) (hw : ∀ d ∈ tables_1, d.before a0 Z = true) (ws : List Jvm.Cond)  (h0 : Heap) (n0 : Nat) (Z0 : n0 ≤ h0.size)  :
    MetFree l (⟨"java/lang/StringUTF16", "newBytesLength", "(I)I"⟩ : MethodName) (head1 (Jvm.Cond.code (⟨"java/lang/StringUTF16", "newBytesLength", "(I)I"⟩ : MethodName) jdk_52_method_3_code 1 (some .int) :: ws) ({ frames := 0, cells := 0, slots := 0, locals := 0 } : Room)) (fun as_ U_ => as_ = #[(.int (2 : Int32))] ∧ Z.Warmed39 U_.vm ∧ U_.heap = h0) (fun _ _ _ _ _ => True) (fun _ U_ o_ U2_ => ∃ v_ L_, o_ = .returned v_ ∧ (Q_rmNL2 Z  h0 n0) v_ U2_.heap L_ ∧ FrameEnd U_ o_ U2_ L_ ({ frames := 0, cells := 0, slots := 0, locals := 0 } : Room).cells ({ frames := 0, cells := 0, slots := 0, locals := 0 } : Room).slots) := by
  refine MetFree.of_bodySF (plainFor_of_name (by first | (simp [plainName, overriddenIn]; done) | decide +kernel : plainName "java/lang/StringUTF16" = true)) hisR ?_
  intro p e s m args below meth c s₁ Bd hml0 hP hK
  obtain ⟨rfl, hZ, hh⟩ := hP
  have hx := Bd.exec
  have hby := Bd.bytes
  have hlk := Bd.notSynchronized
  have hml : c.maxLocals = 1 := hml0
  have hown : s.vm.findClass "java/lang/StringUTF16" = some m.cls := findClass_of_methodNamed Bd.named
  have hnm := (name_of_methodNamed Bd.named Bd.method).1
  have X0 : Stand p l e ({ frames := 0, cells := 0, slots := 0, locals := 0 } : Room) s m #[(.int (2 : Int32))] below meth c s₁ [] 0 0 := Stand.of_body Bd
  have e0 : s₁.heap = h0 := by rw [← hh, Bd.state]; rfl
  have N0 := Fr.nil n0
  show own_Go p e below (own_R s below (Q_rmNL2 Z  h0 n0) ({ frames := 0, cells := 0, slots := 0, locals := 0 } : Room).cells ({ frames := 0, cells := 0, slots := 0, locals := 0 } : Room).slots) (s₁.setTop (entryFrame m #[(.int (2 : Int32))] 1))
  refine own_bk (S' := (s₁.setTop (mkF m 0 #[iv (2 : Int32)] []))) (fun t_ kont => castTop (ef_rmNL2 m ((2 : Int32))) kont) ?_
  refine own_bk (S' := (s₁.setTop (mkF m 1 #[iv (2 : Int32)] [(.int (2 : Int32))]))) (fun t_ kont => XS.iloadN X0.here hx rfl (hb hby d19_0) rfl kont) ?_
  refine own_bk (S' := (s₁.setTop (mkF m 12 #[iv (2 : Int32)] []))) (fun t_ kont => XS.ifYes X0.here hx rfl (pc0 := 1) (pc' := 12) rfl (hb hby d19_1) rfl ((if0 _ _).trans (flt (by decide : ¬ ((2 : Int32)) < ((0 : Int32)))).2.1) (by decide) (by decide) kont) ?_
  refine own_bk (S' := (s₁.setTop (mkF m 13 #[iv (2 : Int32)] [(.int (2 : Int32))]))) (fun t_ kont => XS.iloadN X0.here hx rfl (hb hby d19_12) rfl kont) ?_
  refine own_bk (S' := (s₁.setTop (mkF m 15 #[iv (2 : Int32)] [(.int (1073741823 : Int32)), (.int (2 : Int32))]))) (fun t_ kont => X0.ldcI hx hown (mvT hZ (hw _ (List.mem_of_getElem? (i := 139) rfl))) rfl (hb hby d19_13) kont) ?_
  refine own_bk (S' := (s₁.setTop (mkF m 55 #[iv (2 : Int32)] []))) (fun t_ kont => XS.icmpYes X0.here hx rfl (pc0 := 15) (pc' := 55) rfl (hb hby d19_15) rfl (tlt (by decide : ((2 : Int32)) < ((1073741823 : Int32)))).1 (by decide) (by decide) kont) ?_
  refine own_bk (S' := (s₁.setTop (mkF m 56 #[iv (2 : Int32)] [(.int (2 : Int32))]))) (fun t_ kont => XS.iloadN X0.here hx rfl (hb hby d19_55) rfl kont) ?_
  refine own_bk (S' := (s₁.setTop (mkF m 57 #[iv (2 : Int32)] [(.int (1 : Int32)), (.int (2 : Int32))]))) (fun t_ kont => XS.iconst X0.here hx rfl (hb hby d19_56) kont) ?_
  refine own_bk (S' := (s₁.setTop (mkF m 58 #[iv (2 : Int32)] [(.int (4 : Int32))]))) (fun t_ kont => XS.ishl X0.here hx rfl (hb hby d19_57) rfl kont) ?_
  exact own_retI X0 hx hlk Bd.returns (hb hby d19_58) ⟨rfl, N0, e0⟩ (by decide) (by decide)
theorem ef_rmNL3 (m : MethodId) (x0 : Int32) : entryFrame m #[(.int x0)] 1 = mkF m 0 #[.val (.int x0)] [] := by first | (simp [entryFrame, mkF, argsToLocals, Value.category, maxLocals]; done) | rfl
def Q_rmNL3 (Z : State)  (h0 : Heap) (n0 : Nat) (v : Option Value) (h : Heap) (L : List Loc) : Prop := v = some (.int 6) ∧ Fr n0 L ∧ h = h0
set_option maxRecDepth 65536 in
set_option maxHeartbeats 40000000 in
theorem rmNL3 (l : Launch) (Z : State) (a0 : Array Value) (hw : ∀ d ∈ tables_1, d.before a0 Z = true) (ws : List Jvm.Cond)  (h0 : Heap) (n0 : Nat) (Z0 : n0 ≤ h0.size)  :
    MetFree l (⟨"java/lang/StringUTF16", "newBytesLength", "(I)I"⟩ : MethodName) (head1 (Jvm.Cond.code (⟨"java/lang/StringUTF16", "newBytesLength", "(I)I"⟩ : MethodName) jdk_52_method_3_code 1 (some .int) :: ws) ({ frames := 0, cells := 0, slots := 0, locals := 0 } : Room)) (fun as_ U_ => as_ = #[(.int (3 : Int32))] ∧ Z.Warmed39 U_.vm ∧ U_.heap = h0) (fun _ _ _ _ _ => True) (fun _ U_ o_ U2_ => ∃ v_ L_, o_ = .returned v_ ∧ (Q_rmNL3 Z  h0 n0) v_ U2_.heap L_ ∧ FrameEnd U_ o_ U2_ L_ ({ frames := 0, cells := 0, slots := 0, locals := 0 } : Room).cells ({ frames := 0, cells := 0, slots := 0, locals := 0 } : Room).slots) := by
  refine MetFree.of_bodySF (plainFor_of_name (by first | (simp [plainName, overriddenIn]; done) | decide +kernel : plainName "java/lang/StringUTF16" = true)) hisR ?_
  intro p e s m args below meth c s₁ Bd hml0 hP hK
  obtain ⟨rfl, hZ, hh⟩ := hP
  have hx := Bd.exec
  have hby := Bd.bytes
  have hlk := Bd.notSynchronized
  have hml : c.maxLocals = 1 := hml0
  have hown : s.vm.findClass "java/lang/StringUTF16" = some m.cls := findClass_of_methodNamed Bd.named
  have hnm := (name_of_methodNamed Bd.named Bd.method).1
  have X0 : Stand p l e ({ frames := 0, cells := 0, slots := 0, locals := 0 } : Room) s m #[(.int (3 : Int32))] below meth c s₁ [] 0 0 := Stand.of_body Bd
  have e0 : s₁.heap = h0 := by rw [← hh, Bd.state]; rfl
  have N0 := Fr.nil n0
  show own_Go p e below (own_R s below (Q_rmNL3 Z  h0 n0) ({ frames := 0, cells := 0, slots := 0, locals := 0 } : Room).cells ({ frames := 0, cells := 0, slots := 0, locals := 0 } : Room).slots) (s₁.setTop (entryFrame m #[(.int (3 : Int32))] 1))
  refine own_bk (S' := (s₁.setTop (mkF m 0 #[iv (3 : Int32)] []))) (fun t_ kont => castTop (ef_rmNL3 m ((3 : Int32))) kont) ?_
  refine own_bk (S' := (s₁.setTop (mkF m 1 #[iv (3 : Int32)] [(.int (3 : Int32))]))) (fun t_ kont => XS.iloadN X0.here hx rfl (hb hby d19_0) rfl kont) ?_
  refine own_bk (S' := (s₁.setTop (mkF m 12 #[iv (3 : Int32)] []))) (fun t_ kont => XS.ifYes X0.here hx rfl (pc0 := 1) (pc' := 12) rfl (hb hby d19_1) rfl ((if0 _ _).trans (flt (by decide : ¬ ((3 : Int32)) < ((0 : Int32)))).2.1) (by decide) (by decide) kont) ?_
  refine own_bk (S' := (s₁.setTop (mkF m 13 #[iv (3 : Int32)] [(.int (3 : Int32))]))) (fun t_ kont => XS.iloadN X0.here hx rfl (hb hby d19_12) rfl kont) ?_
  refine own_bk (S' := (s₁.setTop (mkF m 15 #[iv (3 : Int32)] [(.int (1073741823 : Int32)), (.int (3 : Int32))]))) (fun t_ kont => X0.ldcI hx hown (mvT hZ (hw _ (List.mem_of_getElem? (i := 139) rfl))) rfl (hb hby d19_13) kont) ?_
  refine own_bk (S' := (s₁.setTop (mkF m 55 #[iv (3 : Int32)] []))) (fun t_ kont => XS.icmpYes X0.here hx rfl (pc0 := 15) (pc' := 55) rfl (hb hby d19_15) rfl (tlt (by decide : ((3 : Int32)) < ((1073741823 : Int32)))).1 (by decide) (by decide) kont) ?_
  refine own_bk (S' := (s₁.setTop (mkF m 56 #[iv (3 : Int32)] [(.int (3 : Int32))]))) (fun t_ kont => XS.iloadN X0.here hx rfl (hb hby d19_55) rfl kont) ?_
  refine own_bk (S' := (s₁.setTop (mkF m 57 #[iv (3 : Int32)] [(.int (1 : Int32)), (.int (3 : Int32))]))) (fun t_ kont => XS.iconst X0.here hx rfl (hb hby d19_56) kont) ?_
  refine own_bk (S' := (s₁.setTop (mkF m 58 #[iv (3 : Int32)] [(.int (6 : Int32))]))) (fun t_ kont => XS.ishl X0.here hx rfl (hb hby d19_57) rfl kont) ?_
  exact own_retI X0 hx hlk Bd.returns (hb hby d19_58) ⟨rfl, N0, e0⟩ (by decide) (by decide)
theorem d18_0 : decode jdk_52_method_2_code 0 = .ok (.iload_n 0, 1) := by decide +kernel
theorem d18_1 : decode jdk_52_method_2_code 1 = .ok (.invokestatic 11, 3) := by decide +kernel
theorem d18_4 : decode jdk_52_method_2_code 4 = .ok (.newarray .byte, 2) := by decide +kernel
theorem d18_6 : decode jdk_52_method_2_code 6 = .ok (.areturn, 1) := by decide +kernel
theorem ef_rmNF2 (m : MethodId) (x0 : Int32) : entryFrame m #[(.int x0)] 1 = mkF m 0 #[.val (.int x0)] [] := by first | (simp [entryFrame, mkF, argsToLocals, Value.category, maxLocals]; done) | rfl
def Q_rmNF2 (Z : State)  (h0 : Heap) (n0 : Nat) (v : Option Value) (h : Heap) (L : List Loc) : Prop := Fr n0 L ∧ Old Z n0 h ∧ Keep h0 h [] ∧ ∃ d kd, v = some (.ref d) ∧ h0.size ≤ d ∧ Arv Z h d kd .byte (4 : Int32) [(.int (0 : Int32)), (.int (0 : Int32)), (.int (0 : Int32)), (.int (0 : Int32))] (.int (0 : Int32))
set_option maxRecDepth 65536 in
set_option maxHeartbeats 40000000 in
theorem rmNF2 (l : Launch) (Z : State) (a0 : Array Value) (hw : ∀ d ∈ tables_1, d.before a0 Z = true) (ws : List Jvm.Cond)  (h0 : Heap) (n0 : Nat) (Z0 : n0 ≤ h0.size) (O : Old Z n0 h0) :
    MetFree l (⟨"java/lang/StringUTF16", "newBytesFor", "(I)[B"⟩ : MethodName) (head1 (Jvm.Cond.code (⟨"java/lang/StringUTF16", "newBytesFor", "(I)[B"⟩ : MethodName) jdk_52_method_2_code 1 (some (.array .byte)) :: ws) ({ frames := 1, cells := 1, slots := 6, locals := 20 } : Room)) (fun as_ U_ => as_ = #[(.int (2 : Int32))] ∧ Z.Warmed39 U_.vm ∧ U_.heap = h0) (fun _ _ _ _ _ => True) (fun _ U_ o_ U2_ => ∃ v_ L_, o_ = .returned v_ ∧ (Q_rmNF2 Z  h0 n0) v_ U2_.heap L_ ∧ FrameEnd U_ o_ U2_ L_ ({ frames := 1, cells := 1, slots := 6, locals := 20 } : Room).cells ({ frames := 1, cells := 1, slots := 6, locals := 20 } : Room).slots) := by
  refine MetFree.of_bodySF (plainFor_of_name (by first | (simp [plainName, overriddenIn]; done) | decide +kernel : plainName "java/lang/StringUTF16" = true)) hisR ?_
  intro p e s m args below meth c s₁ Bd hml0 hP hK
  obtain ⟨rfl, hZ, hh⟩ := hP
  have hx := Bd.exec
  have hby := Bd.bytes
  have hlk := Bd.notSynchronized
  have hml : c.maxLocals = 1 := hml0
  have hown : s.vm.findClass "java/lang/StringUTF16" = some m.cls := findClass_of_methodNamed Bd.named
  have hnm := (name_of_methodNamed Bd.named Bd.method).1
  have X0 : Stand p l e ({ frames := 1, cells := 1, slots := 6, locals := 20 } : Room) s m #[(.int (2 : Int32))] below meth c s₁ [] 0 0 := Stand.of_body Bd
  have e0 : s₁.heap = h0 := by rw [← hh, Bd.state]; rfl
  have N0 := Fr.nil n0
  show own_Go p e below (own_R s below (Q_rmNF2 Z  h0 n0) ({ frames := 1, cells := 1, slots := 6, locals := 20 } : Room).cells ({ frames := 1, cells := 1, slots := 6, locals := 20 } : Room).slots) (s₁.setTop (entryFrame m #[(.int (2 : Int32))] 1))
  refine own_bk (S' := (s₁.setTop (mkF m 0 #[iv (2 : Int32)] []))) (fun t_ kont => castTop (ef_rmNF2 m ((2 : Int32))) kont) ?_
  refine own_bk (S' := (s₁.setTop (mkF m 1 #[iv (2 : Int32)] [(.int (2 : Int32))]))) (fun t_ kont => XS.iloadN X0.here hx rfl (hb hby d18_0) rfl kont) ?_
  obtain ⟨_, _, ⟨T1, L2, k3, n4⟩, -, X5, ⟨Lc6, hQ7, l8, y9, z10⟩, st11⟩ := Jvm.LawKit.callS X0 hx (y := (⟨"java/lang/StringUTF16", "newBytesLength", "(I)I"⟩ : MethodName)) hown (mvT hZ (hw _ (List.mem_of_getElem? (i := 136) rfl))) (mvT hZ (hw _ (List.mem_of_getElem? (i := 137) rfl))) (mvT hZ (hw _ (List.mem_of_getElem? (i := 122) rfl))) (mvT hZ (hw _ (List.mem_of_getElem? (i := 138) rfl))) (by decide) (backOf (W := 0) (rmNL2 l Z a0 hw [] h0 n0 Z0) hZ (hw _ (List.mem_of_getElem? (i := 138) rfl)) (hw _ (List.mem_of_getElem? (i := 122) rfl)) (by decide) (by decide)) (g := (mkF m 1 #[iv (2 : Int32)] [(.int (2 : Int32))])) rfl (by rw [hml]; rfl) (argsL := [(.int (2 : Int32))]) (rest := []) (lenOf (by decide +kernel : parseMethodDescriptor "(I)I" = some ⟨[.int], some .int⟩) rfl) rfl (by show 2 * 0 + _ ≤ _; exact Nat.le_of_eq rfl) (hb hby d18_1) (fun _ _ => ⟨rfl, e0, (by decide : 0 + 0 ≤ _), (by decide : 0 + 0 ≤ _)⟩)
  dsimp only [Pt.U, Pt.locs, Pt.cells, Pt.slots] at X5 l8 y9 z10 st11 hQ7
  subst l8 y9 z10
  obtain ⟨rfl, N12, e13⟩ := hQ7
  have N14 := Fr.app N0 N12
  refine own_bk (S' := (T1.setTop (mkF m 4 #[iv (2 : Int32)] [(.int (4 : Int32))]))) st11 ?_
  obtain ⟨T15, h16, k17, X18, e19, E20, A21, st22⟩ := newP X5 hx hZ (hw _ (List.mem_of_getElem? (i := 107) rfl)) e13 (g := (mkF m 4 #[iv (2 : Int32)] [(.int (4 : Int32))])) rfl (hb hby d18_4) rfl (by decide : ¬ ((4 : Int32) < (0 : Int32))) (cap := 4) (by decide : (4 : Int32).toNatClampNeg ≤ 4) (by decide) (by decide) (by decide)
  obtain ⟨a23, g24⟩ : ∃ z, z = h0.size := ⟨_, rfl⟩
  rw [← g24] at A21 st22
  have ag26 : n0 ≤ a23 := Nat.le_trans Z0 (Nat.le_of_eq g24.symm)
  have kg27 : h0.size ≤ a23 := Nat.le_trans (Keep.refl h0 []).1 (Nat.le_of_eq g24.symm)
  have Z28 := Nat.le_trans Z0 E20.1
  have O29 := O.ext E20
  have K30 := (Keep.refl h0 []).ext E20
  have V25 : Arv Z h16 a23 k17 .byte (4 : Int32) [] (.int (0 : Int32)) := (Arv.new A21 (by decide : ¬ ((4 : Int32) < (0 : Int32))))
  have V31 : Arv Z h16 a23 k17 .byte (4 : Int32) [(.int (0 : Int32)), (.int (0 : Int32)), (.int (0 : Int32)), (.int (0 : Int32))] (.int (0 : Int32)) := (V25.pad (pad_rep [] (.int (0 : Int32)) 4))
  refine own_bk (S' := (T15.setTop (mkF m 6 #[iv (2 : Int32)] [(.ref a23)]))) st22 ?_
  exact own_retA X18 hx hlk Bd.returns rfl rfl rfl (hb hby d18_6) (by rw [e19]; exact ⟨N14, O29, K30, _, _, rfl, kg27, V31⟩) (by decide) (by decide)
theorem ef_rmNF3 (m : MethodId) (x0 : Int32) : entryFrame m #[(.int x0)] 1 = mkF m 0 #[.val (.int x0)] [] := by first | (simp [entryFrame, mkF, argsToLocals, Value.category, maxLocals]; done) | rfl
def Q_rmNF3 (Z : State)  (h0 : Heap) (n0 : Nat) (v : Option Value) (h : Heap) (L : List Loc) : Prop := Fr n0 L ∧ Old Z n0 h ∧ Keep h0 h [] ∧ ∃ d kd, v = some (.ref d) ∧ h0.size ≤ d ∧ Arv Z h d kd .byte (6 : Int32) [(.int (0 : Int32)), (.int (0 : Int32)), (.int (0 : Int32)), (.int (0 : Int32)), (.int (0 : Int32)), (.int (0 : Int32))] (.int (0 : Int32))
set_option maxRecDepth 65536 in
set_option maxHeartbeats 40000000 in
theorem rmNF3 (l : Launch) (Z : State) (a0 : Array Value) (hw : ∀ d ∈ tables_1, d.before a0 Z = true) (ws : List Jvm.Cond)  (h0 : Heap) (n0 : Nat) (Z0 : n0 ≤ h0.size) (O : Old Z n0 h0) :
    MetFree l (⟨"java/lang/StringUTF16", "newBytesFor", "(I)[B"⟩ : MethodName) (head1 (Jvm.Cond.code (⟨"java/lang/StringUTF16", "newBytesFor", "(I)[B"⟩ : MethodName) jdk_52_method_2_code 1 (some (.array .byte)) :: ws) ({ frames := 1, cells := 1, slots := 6, locals := 20 } : Room)) (fun as_ U_ => as_ = #[(.int (3 : Int32))] ∧ Z.Warmed39 U_.vm ∧ U_.heap = h0) (fun _ _ _ _ _ => True) (fun _ U_ o_ U2_ => ∃ v_ L_, o_ = .returned v_ ∧ (Q_rmNF3 Z  h0 n0) v_ U2_.heap L_ ∧ FrameEnd U_ o_ U2_ L_ ({ frames := 1, cells := 1, slots := 6, locals := 20 } : Room).cells ({ frames := 1, cells := 1, slots := 6, locals := 20 } : Room).slots) := by
  refine MetFree.of_bodySF (plainFor_of_name (by first | (simp [plainName, overriddenIn]; done) | decide +kernel : plainName "java/lang/StringUTF16" = true)) hisR ?_
  intro p e s m args below meth c s₁ Bd hml0 hP hK
  obtain ⟨rfl, hZ, hh⟩ := hP
  have hx := Bd.exec
  have hby := Bd.bytes
  have hlk := Bd.notSynchronized
  have hml : c.maxLocals = 1 := hml0
  have hown : s.vm.findClass "java/lang/StringUTF16" = some m.cls := findClass_of_methodNamed Bd.named
  have hnm := (name_of_methodNamed Bd.named Bd.method).1
  have X0 : Stand p l e ({ frames := 1, cells := 1, slots := 6, locals := 20 } : Room) s m #[(.int (3 : Int32))] below meth c s₁ [] 0 0 := Stand.of_body Bd
  have e0 : s₁.heap = h0 := by rw [← hh, Bd.state]; rfl
  have N0 := Fr.nil n0
  show own_Go p e below (own_R s below (Q_rmNF3 Z  h0 n0) ({ frames := 1, cells := 1, slots := 6, locals := 20 } : Room).cells ({ frames := 1, cells := 1, slots := 6, locals := 20 } : Room).slots) (s₁.setTop (entryFrame m #[(.int (3 : Int32))] 1))
  refine own_bk (S' := (s₁.setTop (mkF m 0 #[iv (3 : Int32)] []))) (fun t_ kont => castTop (ef_rmNF3 m ((3 : Int32))) kont) ?_
  refine own_bk (S' := (s₁.setTop (mkF m 1 #[iv (3 : Int32)] [(.int (3 : Int32))]))) (fun t_ kont => XS.iloadN X0.here hx rfl (hb hby d18_0) rfl kont) ?_
  obtain ⟨_, _, ⟨T1, L2, k3, n4⟩, -, X5, ⟨Lc6, hQ7, l8, y9, z10⟩, st11⟩ := Jvm.LawKit.callS X0 hx (y := (⟨"java/lang/StringUTF16", "newBytesLength", "(I)I"⟩ : MethodName)) hown (mvT hZ (hw _ (List.mem_of_getElem? (i := 136) rfl))) (mvT hZ (hw _ (List.mem_of_getElem? (i := 137) rfl))) (mvT hZ (hw _ (List.mem_of_getElem? (i := 122) rfl))) (mvT hZ (hw _ (List.mem_of_getElem? (i := 138) rfl))) (by decide) (backOf (W := 0) (rmNL3 l Z a0 hw [] h0 n0 Z0) hZ (hw _ (List.mem_of_getElem? (i := 138) rfl)) (hw _ (List.mem_of_getElem? (i := 122) rfl)) (by decide) (by decide)) (g := (mkF m 1 #[iv (3 : Int32)] [(.int (3 : Int32))])) rfl (by rw [hml]; rfl) (argsL := [(.int (3 : Int32))]) (rest := []) (lenOf (by decide +kernel : parseMethodDescriptor "(I)I" = some ⟨[.int], some .int⟩) rfl) rfl (by show 2 * 0 + _ ≤ _; exact Nat.le_of_eq rfl) (hb hby d18_1) (fun _ _ => ⟨rfl, e0, (by decide : 0 + 0 ≤ _), (by decide : 0 + 0 ≤ _)⟩)
  dsimp only [Pt.U, Pt.locs, Pt.cells, Pt.slots] at X5 l8 y9 z10 st11 hQ7
  subst l8 y9 z10
  obtain ⟨rfl, N12, e13⟩ := hQ7
  have N14 := Fr.app N0 N12
  refine own_bk (S' := (T1.setTop (mkF m 4 #[iv (3 : Int32)] [(.int (6 : Int32))]))) st11 ?_
  obtain ⟨T15, h16, k17, X18, e19, E20, A21, st22⟩ := newP X5 hx hZ (hw _ (List.mem_of_getElem? (i := 107) rfl)) e13 (g := (mkF m 4 #[iv (3 : Int32)] [(.int (6 : Int32))])) rfl (hb hby d18_4) rfl (by decide : ¬ ((6 : Int32) < (0 : Int32))) (cap := 6) (by decide : (6 : Int32).toNatClampNeg ≤ 6) (by decide) (by decide) (by decide)
  obtain ⟨a23, g24⟩ : ∃ z, z = h0.size := ⟨_, rfl⟩
  rw [← g24] at A21 st22
  have ag26 : n0 ≤ a23 := Nat.le_trans Z0 (Nat.le_of_eq g24.symm)
  have kg27 : h0.size ≤ a23 := Nat.le_trans (Keep.refl h0 []).1 (Nat.le_of_eq g24.symm)
  have Z28 := Nat.le_trans Z0 E20.1
  have O29 := O.ext E20
  have K30 := (Keep.refl h0 []).ext E20
  have V25 : Arv Z h16 a23 k17 .byte (6 : Int32) [] (.int (0 : Int32)) := (Arv.new A21 (by decide : ¬ ((6 : Int32) < (0 : Int32))))
  have V31 : Arv Z h16 a23 k17 .byte (6 : Int32) [(.int (0 : Int32)), (.int (0 : Int32)), (.int (0 : Int32)), (.int (0 : Int32)), (.int (0 : Int32)), (.int (0 : Int32))] (.int (0 : Int32)) := (V25.pad (pad_rep [] (.int (0 : Int32)) 6))
  refine own_bk (S' := (T15.setTop (mkF m 6 #[iv (3 : Int32)] [(.ref a23)]))) st22 ?_
  exact own_retA X18 hx hlk Bd.returns rfl rfl rfl (hb hby d18_6) (by rw [e19]; exact ⟨N14, O29, K30, _, _, rfl, kg27, V31⟩) (by decide) (by decide)
theorem d20_0 : decode jdk_52_method_4_code 0 = .ok (.getstatic 44, 3) := by decide +kernel
theorem d20_3 : decode jdk_52_method_4_code 3 = .ok (.ifCond .ne 25, 3) := by decide +kernel
theorem d20_6 : decode jdk_52_method_4_code 6 = .ok (.iload_n 1, 1) := by decide +kernel
theorem d20_7 : decode jdk_52_method_4_code 7 = .ok (.ifCond .lt 11, 3) := by decide +kernel
theorem d20_10 : decode jdk_52_method_4_code 10 = .ok (.iload_n 1, 1) := by decide +kernel
theorem d20_11 : decode jdk_52_method_4_code 11 = .ok (.aload_n 0, 1) := by decide +kernel
theorem d20_12 : decode jdk_52_method_4_code 12 = .ok (.invokestatic 48, 3) := by decide +kernel
theorem d20_15 : decode jdk_52_method_4_code 15 = .ok (.if_icmp .lt 13, 3) := by decide +kernel
theorem d20_18 : decode jdk_52_method_4_code 18 = .ok (.new 52, 3) := by decide +kernel
theorem d20_21 : decode jdk_52_method_4_code 21 = .ok (.dup, 1) := by decide +kernel
theorem d20_22 : decode jdk_52_method_4_code 22 = .ok (.ldc 54, 2) := by decide +kernel
theorem d20_24 : decode jdk_52_method_4_code 24 = .ok (.invokespecial 56, 3) := by decide +kernel
theorem d20_27 : decode jdk_52_method_4_code 27 = .ok (.athrow, 1) := by decide +kernel
theorem d20_28 : decode jdk_52_method_4_code 28 = .ok (.iload_n 1, 1) := by decide +kernel
theorem d20_29 : decode jdk_52_method_4_code 29 = .ok (.iconst 1, 1) := by decide +kernel
theorem d20_30 : decode jdk_52_method_4_code 30 = .ok (.ishl, 1) := by decide +kernel
theorem d20_31 : decode jdk_52_method_4_code 31 = .ok (.istore_n 1, 1) := by decide +kernel
theorem d20_32 : decode jdk_52_method_4_code 32 = .ok (.aload_n 0, 1) := by decide +kernel
theorem d20_33 : decode jdk_52_method_4_code 33 = .ok (.iload_n 1, 1) := by decide +kernel
theorem d20_34 : decode jdk_52_method_4_code 34 = .ok (.iinc 1 1, 3) := by decide +kernel
theorem d20_37 : decode jdk_52_method_4_code 37 = .ok (.iload_n 2, 1) := by decide +kernel
theorem d20_38 : decode jdk_52_method_4_code 38 = .ok (.getstatic 59, 3) := by decide +kernel
theorem d20_41 : decode jdk_52_method_4_code 41 = .ok (.ishr, 1) := by decide +kernel
theorem d20_42 : decode jdk_52_method_4_code 42 = .ok (.i2b, 1) := by decide +kernel
theorem d20_43 : decode jdk_52_method_4_code 43 = .ok (.bastore, 1) := by decide +kernel
theorem d20_44 : decode jdk_52_method_4_code 44 = .ok (.aload_n 0, 1) := by decide +kernel
theorem d20_45 : decode jdk_52_method_4_code 45 = .ok (.iload_n 1, 1) := by decide +kernel
theorem d20_46 : decode jdk_52_method_4_code 46 = .ok (.iload_n 2, 1) := by decide +kernel
theorem d20_47 : decode jdk_52_method_4_code 47 = .ok (.getstatic 63, 3) := by decide +kernel
theorem d20_50 : decode jdk_52_method_4_code 50 = .ok (.ishr, 1) := by decide +kernel
theorem d20_51 : decode jdk_52_method_4_code 51 = .ok (.i2b, 1) := by decide +kernel
theorem d20_52 : decode jdk_52_method_4_code 52 = .ok (.bastore, 1) := by decide +kernel
theorem d20_53 : decode jdk_52_method_4_code 53 = .ok (.return_, 1) := by decide +kernel
theorem ef_rmPC10 (m : MethodId) (x0 : Addr) (x1 : Int32) (x2 : Int32) : entryFrame m #[(.ref x0), (.int x1), (.int x2)] 3 = mkF m 0 #[.val (.ref x0), .val (.int x1), .val (.int x2)] [] := by first | (simp [entryFrame, mkF, argsToLocals, Value.category, maxLocals]; done) | rfl
def Q_rmPC10 (Z : State) (d : Addr) (kd : ClassId) (q cz : Int32) (z0 z1 : Value) (h0 : Heap) (n0 : Nat) (v : Option Value) (h : Heap) (L : List Loc) : Prop := v = none ∧ Fr n0 L ∧ Old Z n0 h ∧ Keep h0 h [d] ∧ Arv Z h d kd .byte (2 : Int32) [(.int (own_lo q)), (.int (own_hi q))] (.int (0 : Int32))
set_option maxRecDepth 65536 in
set_option maxHeartbeats 40000000 in
theorem rmPC10 (l : Launch) (Z : State) (a0 : Array Value) (hw : ∀ d ∈ tables_1, d.before a0 Z = true) (ws : List Jvm.Cond) (d : Addr) (kd : ClassId) (q cz : Int32) (z0 z1 : Value) (h0 : Heap) (n0 : Nat) (Z0 : n0 ≤ h0.size) (O : Old Z n0 h0) (SU : own_St Z cz) (VD : Arv Z h0 d kd .byte (2 : Int32) [z0, z1] (.int (0 : Int32))) (ag : n0 ≤ d) :
    MetFree l (⟨"java/lang/StringUTF16", "putChar", "([BII)V"⟩ : MethodName) (head1 (Jvm.Cond.code (⟨"java/lang/StringUTF16", "putChar", "([BII)V"⟩ : MethodName) jdk_52_method_4_code 3 none :: ws) ({ frames := 0, cells := 0, slots := 0, locals := 0 } : Room)) (fun as_ U_ => as_ = #[(.ref d), (.int (0 : Int32)), (.int q)] ∧ Z.Warmed39 U_.vm ∧ U_.heap = h0) (fun _ _ _ _ _ => True) (fun _ U_ o_ U2_ => ∃ v_ L_, o_ = .returned v_ ∧ (Q_rmPC10 Z d kd q cz z0 z1 h0 n0) v_ U2_.heap L_ ∧ FrameEnd U_ o_ U2_ L_ ({ frames := 0, cells := 0, slots := 0, locals := 0 } : Room).cells ({ frames := 0, cells := 0, slots := 0, locals := 0 } : Room).slots) := by
  refine MetFree.of_bodySF (plainFor_of_name (by first | (simp [plainName, overriddenIn]; done) | decide +kernel : plainName "java/lang/StringUTF16" = true)) hisR ?_
  intro p e s m args below meth c s₁ Bd hml0 hP hK
  obtain ⟨rfl, hZ, hh⟩ := hP
  have hx := Bd.exec
  have hby := Bd.bytes
  have hlk := Bd.notSynchronized
  have hml : c.maxLocals = 3 := hml0
  have hown : s.vm.findClass "java/lang/StringUTF16" = some m.cls := findClass_of_methodNamed Bd.named
  have hnm := (name_of_methodNamed Bd.named Bd.method).1
  have X0 : Stand p l e ({ frames := 0, cells := 0, slots := 0, locals := 0 } : Room) s m #[(.ref d), (.int (0 : Int32)), (.int q)] below meth c s₁ [] 0 0 := Stand.of_body Bd
  have e0 : s₁.heap = h0 := by rw [← hh, Bd.state]; rfl
  have N0 := Fr.nil n0
  show own_Go p e below (own_R s below (Q_rmPC10 Z d kd q cz z0 z1 h0 n0) ({ frames := 0, cells := 0, slots := 0, locals := 0 } : Room).cells ({ frames := 0, cells := 0, slots := 0, locals := 0 } : Room).slots) (s₁.setTop (entryFrame m #[(.ref d), (.int (0 : Int32)), (.int q)] 3))
  refine own_bk (S' := (s₁.setTop (mkF m 0 #[rv d, iv (0 : Int32), iv q] []))) (fun t_ kont => castTop (ef_rmPC10 m (d) ((0 : Int32)) (q)) kont) ?_
  obtain ⟨T1, X2, e3, st4⟩ := getS2 X0 hx hZ hown (host := "") (Or.inl (hw _ (List.mem_of_getElem? (i := 143) rfl))) Via.refl e0 (SU.2.2.1.ext O.2) (g := (mkF m 0 #[rv d, iv (0 : Int32), iv q] [])) rfl (hb hby d20_0)
  refine own_bk (S' := (T1.setTop (mkF m 3 #[rv d, iv (0 : Int32), iv q] [(.int (1 : Int32))]))) st4 ?_
  refine own_bk (S' := (T1.setTop (mkF m 28 #[rv d, iv (0 : Int32), iv q] []))) (fun t_ kont => XS.ifYes X2.here hx rfl (pc0 := 3) (pc' := 28) rfl (hb hby d20_3) rfl ((if0 _ _).trans (feq (by decide : ¬ ((1 : Int32)) = ((0 : Int32)))).2) (by decide) (by decide) kont) ?_
  refine own_bk (S' := (T1.setTop (mkF m 29 #[rv d, iv (0 : Int32), iv q] [(.int (0 : Int32))]))) (fun t_ kont => XS.iloadN X2.here hx rfl (hb hby d20_28) rfl kont) ?_
  refine own_bk (S' := (T1.setTop (mkF m 30 #[rv d, iv (0 : Int32), iv q] [(.int (1 : Int32)), (.int (0 : Int32))]))) (fun t_ kont => XS.iconst X2.here hx rfl (hb hby d20_29) kont) ?_
  refine own_bk (S' := (T1.setTop (mkF m 31 #[rv d, iv (0 : Int32), iv q] [(.int (0 : Int32))]))) (fun t_ kont => XS.ishl X2.here hx rfl (hb hby d20_30) rfl kont) ?_
  refine own_bk (S' := (T1.setTop (mkF m 32 #[rv d, iv (0 : Int32), iv q] []))) (fun t_ kont => XS.istoreN X2.here hx rfl (hb hby d20_31) rfl (l' := #[rv d, iv (0 : Int32), iv q]) rfl kont) ?_
  refine own_bk (S' := (T1.setTop (mkF m 33 #[rv d, iv (0 : Int32), iv q] [(.ref d)]))) (fun t_ kont => XS.aloadN X2.here hx rfl (hb hby d20_32) rfl rfl kont) ?_
  refine own_bk (S' := (T1.setTop (mkF m 34 #[rv d, iv (0 : Int32), iv q] [(.int (0 : Int32)), (.ref d)]))) (fun t_ kont => XS.iloadN X2.here hx rfl (hb hby d20_33) rfl kont) ?_
  refine own_bk (S' := (T1.setTop (mkF m 37 #[rv d, iv (1 : Int32), iv q] [(.int (0 : Int32)), (.ref d)]))) (fun t_ kont => XS.iinc X2.here hx rfl (hb hby d20_34) rfl (l' := #[rv d, iv (1 : Int32), iv q]) rfl kont) ?_
  refine own_bk (S' := (T1.setTop (mkF m 38 #[rv d, iv (1 : Int32), iv q] [(.int q), (.int (0 : Int32)), (.ref d)]))) (fun t_ kont => XS.iloadN X2.here hx rfl (hb hby d20_37) rfl kont) ?_
  obtain ⟨T5, X6, e7, st8⟩ := getS2 X2 hx hZ hown (host := "") (Or.inl (hw _ (List.mem_of_getElem? (i := 144) rfl))) Via.refl e3 (SU.2.2.2.1.ext O.2) (g := (mkF m 38 #[rv d, iv (1 : Int32), iv q] [(.int q), (.int (0 : Int32)), (.ref d)])) rfl (hb hby d20_38)
  refine own_bk (S' := (T5.setTop (mkF m 41 #[rv d, iv (1 : Int32), iv q] [(.int (0 : Int32)), (.int q), (.int (0 : Int32)), (.ref d)]))) st8 ?_
  refine own_bk (S' := (T5.setTop (mkF m 42 #[rv d, iv (1 : Int32), iv q] [(.int (q >>> ((0 : Int32) &&& 31))), (.int (0 : Int32)), (.ref d)]))) (fun t_ kont => XS.ishr X6.here hx rfl (hb hby d20_41) rfl kont) ?_
  refine own_bk (S' := (T5.setTop (mkF m 43 #[rv d, iv (1 : Int32), iv q] [(.int ((q >>> ((0 : Int32) &&& 31)).toInt8.toInt32)), (.int (0 : Int32)), (.ref d)]))) (fun t_ kont => XS.i2b X6.here hx rfl (hb hby d20_42) rfl kont) ?_
  obtain ⟨c9, A10, q11, S12, M13, H14, U15⟩ := id VD
  obtain ⟨T16, h17, X18, e19, W20, st21⟩ := stB X6 hx hZ e7 A10 (j := (0 : Int32)) (inb_of S12 ⟨(by decide : ¬ ((0 : Int32) < (0 : Int32))), (by decide : (0 : Int32) < (2 : Int32))⟩) (g := (mkF m 43 #[rv d, iv (1 : Int32), iv q] [(.int ((q >>> ((0 : Int32) &&& 31)).toInt8.toInt32)), (.int (0 : Int32)), (.ref d)])) rfl rfl (hb hby d20_43)
  have N22 := Fr.snoc X18 N0 ag
  have Z23 := Nat.le_trans Z0 (Keep.of_wr W20).1
  have O24 := O.wr W20 ag
  have K25 := (Keep.refl h0 [d]).wr W20 (Or.inl (List.mem_of_getElem? (i := 0) rfl))
  have V26 : Arv Z h17 d kd .byte (2 : Int32) [(.int (nar .byte ((q >>> ((0 : Int32) &&& 31)).toInt8.toInt32))), z1] (.int (0 : Int32)) := (Arv.set A10 q11 S12 M13 H14 U15 (fits_nar_byte _) W20 0 rfl (Nat.le_of_ble_eq_true rfl))
  refine own_bk (S' := (T16.setTop (mkF m 44 #[rv d, iv (1 : Int32), iv q] []))) st21 ?_
  refine own_bk (S' := (T16.setTop (mkF m 45 #[rv d, iv (1 : Int32), iv q] [(.ref d)]))) (fun t_ kont => XS.aloadN X18.here hx rfl (hb hby d20_44) rfl rfl kont) ?_
  refine own_bk (S' := (T16.setTop (mkF m 46 #[rv d, iv (1 : Int32), iv q] [(.int (1 : Int32)), (.ref d)]))) (fun t_ kont => XS.iloadN X18.here hx rfl (hb hby d20_45) rfl kont) ?_
  refine own_bk (S' := (T16.setTop (mkF m 47 #[rv d, iv (1 : Int32), iv q] [(.int q), (.int (1 : Int32)), (.ref d)]))) (fun t_ kont => XS.iloadN X18.here hx rfl (hb hby d20_46) rfl kont) ?_
  obtain ⟨T27, X28, e29, st30⟩ := getS2 X18 hx hZ hown (host := "") (Or.inl (hw _ (List.mem_of_getElem? (i := 145) rfl))) Via.refl e19 (SU.2.2.2.2.ext O24.2) (g := (mkF m 47 #[rv d, iv (1 : Int32), iv q] [(.int q), (.int (1 : Int32)), (.ref d)])) rfl (hb hby d20_47)
  refine own_bk (S' := (T27.setTop (mkF m 50 #[rv d, iv (1 : Int32), iv q] [(.int (8 : Int32)), (.int q), (.int (1 : Int32)), (.ref d)]))) st30 ?_
  refine own_bk (S' := (T27.setTop (mkF m 51 #[rv d, iv (1 : Int32), iv q] [(.int (q >>> ((8 : Int32) &&& 31))), (.int (1 : Int32)), (.ref d)]))) (fun t_ kont => XS.ishr X28.here hx rfl (hb hby d20_50) rfl kont) ?_
  refine own_bk (S' := (T27.setTop (mkF m 52 #[rv d, iv (1 : Int32), iv q] [(.int ((q >>> ((8 : Int32) &&& 31)).toInt8.toInt32)), (.int (1 : Int32)), (.ref d)]))) (fun t_ kont => XS.i2b X28.here hx rfl (hb hby d20_51) rfl kont) ?_
  obtain ⟨c31, A32, q33, S34, M35, H36, U37⟩ := id V26
  obtain ⟨T38, h39, X40, e41, W42, st43⟩ := stB X28 hx hZ e29 A32 (j := (1 : Int32)) (inb_of S34 ⟨(by decide : ¬ ((1 : Int32) < (0 : Int32))), (by decide : (1 : Int32) < (2 : Int32))⟩) (g := (mkF m 52 #[rv d, iv (1 : Int32), iv q] [(.int ((q >>> ((8 : Int32) &&& 31)).toInt8.toInt32)), (.int (1 : Int32)), (.ref d)])) rfl rfl (hb hby d20_52)
  have N44 := Fr.snoc X40 N22 ag
  have Z45 := Nat.le_trans Z23 (Keep.of_wr W42).1
  have O46 := O24.wr W42 ag
  have K47 := K25.wr W42 (Or.inl (List.mem_of_getElem? (i := 0) rfl))
  have V48 : Arv Z h39 d kd .byte (2 : Int32) [(.int (nar .byte ((q >>> ((0 : Int32) &&& 31)).toInt8.toInt32))), (.int (nar .byte ((q >>> ((8 : Int32) &&& 31)).toInt8.toInt32)))] (.int (0 : Int32)) := (Arv.set A32 q33 S34 M35 H36 U37 (fits_nar_byte _) W42 1 rfl (Nat.le_of_ble_eq_true rfl))
  refine own_bk (S' := (T38.setTop (mkF m 53 #[rv d, iv (1 : Int32), iv q] []))) st43 ?_
  exact own_retV X40 hx hlk Bd.returns (hb hby d20_53) (by rw [e41]; exact ⟨rfl, N44, O46, K47, V48⟩) (by decide) (by decide)
theorem ef_rmPC20 (m : MethodId) (x0 : Addr) (x1 : Int32) (x2 : Int32) : entryFrame m #[(.ref x0), (.int x1), (.int x2)] 3 = mkF m 0 #[.val (.ref x0), .val (.int x1), .val (.int x2)] [] := by first | (simp [entryFrame, mkF, argsToLocals, Value.category, maxLocals]; done) | rfl
def Q_rmPC20 (Z : State) (d : Addr) (kd : ClassId) (q cz : Int32) (z0 z1 z2 z3 : Value) (h0 : Heap) (n0 : Nat) (v : Option Value) (h : Heap) (L : List Loc) : Prop := v = none ∧ Fr n0 L ∧ Old Z n0 h ∧ Keep h0 h [d] ∧ Arv Z h d kd .byte (4 : Int32) [(.int (own_lo q)), (.int (own_hi q)), z2, z3] (.int (0 : Int32))
set_option maxRecDepth 65536 in
set_option maxHeartbeats 40000000 in
theorem rmPC20 (l : Launch) (Z : State) (a0 : Array Value) (hw : ∀ d ∈ tables_1, d.before a0 Z = true) (ws : List Jvm.Cond) (d : Addr) (kd : ClassId) (q cz : Int32) (z0 z1 z2 z3 : Value) (h0 : Heap) (n0 : Nat) (Z0 : n0 ≤ h0.size) (O : Old Z n0 h0) (SU : own_St Z cz) (VD : Arv Z h0 d kd .byte (4 : Int32) [z0, z1, z2, z3] (.int (0 : Int32))) (ag : n0 ≤ d) :
    MetFree l (⟨"java/lang/StringUTF16", "putChar", "([BII)V"⟩ : MethodName) (head1 (Jvm.Cond.code (⟨"java/lang/StringUTF16", "putChar", "([BII)V"⟩ : MethodName) jdk_52_method_4_code 3 none :: ws) ({ frames := 0, cells := 0, slots := 0, locals := 0 } : Room)) (fun as_ U_ => as_ = #[(.ref d), (.int (0 : Int32)), (.int q)] ∧ Z.Warmed39 U_.vm ∧ U_.heap = h0) (fun _ _ _ _ _ => True) (fun _ U_ o_ U2_ => ∃ v_ L_, o_ = .returned v_ ∧ (Q_rmPC20 Z d kd q cz z0 z1 z2 z3 h0 n0) v_ U2_.heap L_ ∧ FrameEnd U_ o_ U2_ L_ ({ frames := 0, cells := 0, slots := 0, locals := 0 } : Room).cells ({ frames := 0, cells := 0, slots := 0, locals := 0 } : Room).slots) := by
  refine MetFree.of_bodySF (plainFor_of_name (by first | (simp [plainName, overriddenIn]; done) | decide +kernel : plainName "java/lang/StringUTF16" = true)) hisR ?_
  intro p e s m args below meth c s₁ Bd hml0 hP hK
  obtain ⟨rfl, hZ, hh⟩ := hP
  have hx := Bd.exec
  have hby := Bd.bytes
  have hlk := Bd.notSynchronized
  have hml : c.maxLocals = 3 := hml0
  have hown : s.vm.findClass "java/lang/StringUTF16" = some m.cls := findClass_of_methodNamed Bd.named
  have hnm := (name_of_methodNamed Bd.named Bd.method).1
  have X0 : Stand p l e ({ frames := 0, cells := 0, slots := 0, locals := 0 } : Room) s m #[(.ref d), (.int (0 : Int32)), (.int q)] below meth c s₁ [] 0 0 := Stand.of_body Bd
  have e0 : s₁.heap = h0 := by rw [← hh, Bd.state]; rfl
  have N0 := Fr.nil n0
  show own_Go p e below (own_R s below (Q_rmPC20 Z d kd q cz z0 z1 z2 z3 h0 n0) ({ frames := 0, cells := 0, slots := 0, locals := 0 } : Room).cells ({ frames := 0, cells := 0, slots := 0, locals := 0 } : Room).slots) (s₁.setTop (entryFrame m #[(.ref d), (.int (0 : Int32)), (.int q)] 3))
  refine own_bk (S' := (s₁.setTop (mkF m 0 #[rv d, iv (0 : Int32), iv q] []))) (fun t_ kont => castTop (ef_rmPC20 m (d) ((0 : Int32)) (q)) kont) ?_
  obtain ⟨T1, X2, e3, st4⟩ := getS2 X0 hx hZ hown (host := "") (Or.inl (hw _ (List.mem_of_getElem? (i := 143) rfl))) Via.refl e0 (SU.2.2.1.ext O.2) (g := (mkF m 0 #[rv d, iv (0 : Int32), iv q] [])) rfl (hb hby d20_0)
  refine own_bk (S' := (T1.setTop (mkF m 3 #[rv d, iv (0 : Int32), iv q] [(.int (1 : Int32))]))) st4 ?_
  refine own_bk (S' := (T1.setTop (mkF m 28 #[rv d, iv (0 : Int32), iv q] []))) (fun t_ kont => XS.ifYes X2.here hx rfl (pc0 := 3) (pc' := 28) rfl (hb hby d20_3) rfl ((if0 _ _).trans (feq (by decide : ¬ ((1 : Int32)) = ((0 : Int32)))).2) (by decide) (by decide) kont) ?_
  refine own_bk (S' := (T1.setTop (mkF m 29 #[rv d, iv (0 : Int32), iv q] [(.int (0 : Int32))]))) (fun t_ kont => XS.iloadN X2.here hx rfl (hb hby d20_28) rfl kont) ?_
  refine own_bk (S' := (T1.setTop (mkF m 30 #[rv d, iv (0 : Int32), iv q] [(.int (1 : Int32)), (.int (0 : Int32))]))) (fun t_ kont => XS.iconst X2.here hx rfl (hb hby d20_29) kont) ?_
  refine own_bk (S' := (T1.setTop (mkF m 31 #[rv d, iv (0 : Int32), iv q] [(.int (0 : Int32))]))) (fun t_ kont => XS.ishl X2.here hx rfl (hb hby d20_30) rfl kont) ?_
  refine own_bk (S' := (T1.setTop (mkF m 32 #[rv d, iv (0 : Int32), iv q] []))) (fun t_ kont => XS.istoreN X2.here hx rfl (hb hby d20_31) rfl (l' := #[rv d, iv (0 : Int32), iv q]) rfl kont) ?_
  refine own_bk (S' := (T1.setTop (mkF m 33 #[rv d, iv (0 : Int32), iv q] [(.ref d)]))) (fun t_ kont => XS.aloadN X2.here hx rfl (hb hby d20_32) rfl rfl kont) ?_
  refine own_bk (S' := (T1.setTop (mkF m 34 #[rv d, iv (0 : Int32), iv q] [(.int (0 : Int32)), (.ref d)]))) (fun t_ kont => XS.iloadN X2.here hx rfl (hb hby d20_33) rfl kont) ?_
  refine own_bk (S' := (T1.setTop (mkF m 37 #[rv d, iv (1 : Int32), iv q] [(.int (0 : Int32)), (.ref d)]))) (fun t_ kont => XS.iinc X2.here hx rfl (hb hby d20_34) rfl (l' := #[rv d, iv (1 : Int32), iv q]) rfl kont) ?_
  refine own_bk (S' := (T1.setTop (mkF m 38 #[rv d, iv (1 : Int32), iv q] [(.int q), (.int (0 : Int32)), (.ref d)]))) (fun t_ kont => XS.iloadN X2.here hx rfl (hb hby d20_37) rfl kont) ?_
  obtain ⟨T5, X6, e7, st8⟩ := getS2 X2 hx hZ hown (host := "") (Or.inl (hw _ (List.mem_of_getElem? (i := 144) rfl))) Via.refl e3 (SU.2.2.2.1.ext O.2) (g := (mkF m 38 #[rv d, iv (1 : Int32), iv q] [(.int q), (.int (0 : Int32)), (.ref d)])) rfl (hb hby d20_38)
  refine own_bk (S' := (T5.setTop (mkF m 41 #[rv d, iv (1 : Int32), iv q] [(.int (0 : Int32)), (.int q), (.int (0 : Int32)), (.ref d)]))) st8 ?_
  refine own_bk (S' := (T5.setTop (mkF m 42 #[rv d, iv (1 : Int32), iv q] [(.int (q >>> ((0 : Int32) &&& 31))), (.int (0 : Int32)), (.ref d)]))) (fun t_ kont => XS.ishr X6.here hx rfl (hb hby d20_41) rfl kont) ?_
  refine own_bk (S' := (T5.setTop (mkF m 43 #[rv d, iv (1 : Int32), iv q] [(.int ((q >>> ((0 : Int32) &&& 31)).toInt8.toInt32)), (.int (0 : Int32)), (.ref d)]))) (fun t_ kont => XS.i2b X6.here hx rfl (hb hby d20_42) rfl kont) ?_
  obtain ⟨c9, A10, q11, S12, M13, H14, U15⟩ := id VD
  obtain ⟨T16, h17, X18, e19, W20, st21⟩ := stB X6 hx hZ e7 A10 (j := (0 : Int32)) (inb_of S12 ⟨(by decide : ¬ ((0 : Int32) < (0 : Int32))), (by decide : (0 : Int32) < (4 : Int32))⟩) (g := (mkF m 43 #[rv d, iv (1 : Int32), iv q] [(.int ((q >>> ((0 : Int32) &&& 31)).toInt8.toInt32)), (.int (0 : Int32)), (.ref d)])) rfl rfl (hb hby d20_43)
  have N22 := Fr.snoc X18 N0 ag
  have Z23 := Nat.le_trans Z0 (Keep.of_wr W20).1
  have O24 := O.wr W20 ag
  have K25 := (Keep.refl h0 [d]).wr W20 (Or.inl (List.mem_of_getElem? (i := 0) rfl))
  have V26 : Arv Z h17 d kd .byte (4 : Int32) [(.int (nar .byte ((q >>> ((0 : Int32) &&& 31)).toInt8.toInt32))), z1, z2, z3] (.int (0 : Int32)) := (Arv.set A10 q11 S12 M13 H14 U15 (fits_nar_byte _) W20 0 rfl (Nat.le_of_ble_eq_true rfl))
  refine own_bk (S' := (T16.setTop (mkF m 44 #[rv d, iv (1 : Int32), iv q] []))) st21 ?_
  refine own_bk (S' := (T16.setTop (mkF m 45 #[rv d, iv (1 : Int32), iv q] [(.ref d)]))) (fun t_ kont => XS.aloadN X18.here hx rfl (hb hby d20_44) rfl rfl kont) ?_
  refine own_bk (S' := (T16.setTop (mkF m 46 #[rv d, iv (1 : Int32), iv q] [(.int (1 : Int32)), (.ref d)]))) (fun t_ kont => XS.iloadN X18.here hx rfl (hb hby d20_45) rfl kont) ?_
  refine own_bk (S' := (T16.setTop (mkF m 47 #[rv d, iv (1 : Int32), iv q] [(.int q), (.int (1 : Int32)), (.ref d)]))) (fun t_ kont => XS.iloadN X18.here hx rfl (hb hby d20_46) rfl kont) ?_
  obtain ⟨T27, X28, e29, st30⟩ := getS2 X18 hx hZ hown (host := "") (Or.inl (hw _ (List.mem_of_getElem? (i := 145) rfl))) Via.refl e19 (SU.2.2.2.2.ext O24.2) (g := (mkF m 47 #[rv d, iv (1 : Int32), iv q] [(.int q), (.int (1 : Int32)), (.ref d)])) rfl (hb hby d20_47)
  refine own_bk (S' := (T27.setTop (mkF m 50 #[rv d, iv (1 : Int32), iv q] [(.int (8 : Int32)), (.int q), (.int (1 : Int32)), (.ref d)]))) st30 ?_
  refine own_bk (S' := (T27.setTop (mkF m 51 #[rv d, iv (1 : Int32), iv q] [(.int (q >>> ((8 : Int32) &&& 31))), (.int (1 : Int32)), (.ref d)]))) (fun t_ kont => XS.ishr X28.here hx rfl (hb hby d20_50) rfl kont) ?_
  refine own_bk (S' := (T27.setTop (mkF m 52 #[rv d, iv (1 : Int32), iv q] [(.int ((q >>> ((8 : Int32) &&& 31)).toInt8.toInt32)), (.int (1 : Int32)), (.ref d)]))) (fun t_ kont => XS.i2b X28.here hx rfl (hb hby d20_51) rfl kont) ?_
  obtain ⟨c31, A32, q33, S34, M35, H36, U37⟩ := id V26
  obtain ⟨T38, h39, X40, e41, W42, st43⟩ := stB X28 hx hZ e29 A32 (j := (1 : Int32)) (inb_of S34 ⟨(by decide : ¬ ((1 : Int32) < (0 : Int32))), (by decide : (1 : Int32) < (4 : Int32))⟩) (g := (mkF m 52 #[rv d, iv (1 : Int32), iv q] [(.int ((q >>> ((8 : Int32) &&& 31)).toInt8.toInt32)), (.int (1 : Int32)), (.ref d)])) rfl rfl (hb hby d20_52)
  have N44 := Fr.snoc X40 N22 ag
  have Z45 := Nat.le_trans Z23 (Keep.of_wr W42).1
  have O46 := O24.wr W42 ag
  have K47 := K25.wr W42 (Or.inl (List.mem_of_getElem? (i := 0) rfl))
  have V48 : Arv Z h39 d kd .byte (4 : Int32) [(.int (nar .byte ((q >>> ((0 : Int32) &&& 31)).toInt8.toInt32))), (.int (nar .byte ((q >>> ((8 : Int32) &&& 31)).toInt8.toInt32))), z2, z3] (.int (0 : Int32)) := (Arv.set A32 q33 S34 M35 H36 U37 (fits_nar_byte _) W42 1 rfl (Nat.le_of_ble_eq_true rfl))
  refine own_bk (S' := (T38.setTop (mkF m 53 #[rv d, iv (1 : Int32), iv q] []))) st43 ?_
  exact own_retV X40 hx hlk Bd.returns (hb hby d20_53) (by rw [e41]; exact ⟨rfl, N44, O46, K47, V48⟩) (by decide) (by decide)
theorem ef_rmPC21 (m : MethodId) (x0 : Addr) (x1 : Int32) (x2 : Int32) : entryFrame m #[(.ref x0), (.int x1), (.int x2)] 3 = mkF m 0 #[.val (.ref x0), .val (.int x1), .val (.int x2)] [] := by first | (simp [entryFrame, mkF, argsToLocals, Value.category, maxLocals]; done) | rfl
def Q_rmPC21 (Z : State) (d : Addr) (kd : ClassId) (q cz : Int32) (z0 z1 z2 z3 : Value) (h0 : Heap) (n0 : Nat) (v : Option Value) (h : Heap) (L : List Loc) : Prop := v = none ∧ Fr n0 L ∧ Old Z n0 h ∧ Keep h0 h [d] ∧ Arv Z h d kd .byte (4 : Int32) [z0, z1, (.int (own_lo q)), (.int (own_hi q))] (.int (0 : Int32))
set_option maxRecDepth 65536 in
set_option maxHeartbeats 40000000 in
theorem rmPC21 (l : Launch) (Z : State) (a0 : Array Value) (hw : ∀ d ∈ tables_1, d.before a0 Z = true) (ws : List Jvm.Cond) (d : Addr) (kd : ClassId) (q cz : Int32) (z0 z1 z2 z3 : Value) (h0 : Heap) (n0 : Nat) (Z0 : n0 ≤ h0.size) (O : Old Z n0 h0) (SU : own_St Z cz) (VD : Arv Z h0 d kd .byte (4 : Int32) [z0, z1, z2, z3] (.int (0 : Int32))) (ag : n0 ≤ d) :
    MetFree l (⟨"java/lang/StringUTF16", "putChar", "([BII)V"⟩ : MethodName) (head1 (Jvm.Cond.code (⟨"java/lang/StringUTF16", "putChar", "([BII)V"⟩ : MethodName) jdk_52_method_4_code 3 none :: ws) ({ frames := 0, cells := 0, slots := 0, locals := 0 } : Room)) (fun as_ U_ => as_ = #[(.ref d), (.int (1 : Int32)), (.int q)] ∧ Z.Warmed39 U_.vm ∧ U_.heap = h0) (fun _ _ _ _ _ => True) (fun _ U_ o_ U2_ => ∃ v_ L_, o_ = .returned v_ ∧ (Q_rmPC21 Z d kd q cz z0 z1 z2 z3 h0 n0) v_ U2_.heap L_ ∧ FrameEnd U_ o_ U2_ L_ ({ frames := 0, cells := 0, slots := 0, locals := 0 } : Room).cells ({ frames := 0, cells := 0, slots := 0, locals := 0 } : Room).slots) := by
  refine MetFree.of_bodySF (plainFor_of_name (by first | (simp [plainName, overriddenIn]; done) | decide +kernel : plainName "java/lang/StringUTF16" = true)) hisR ?_
  intro p e s m args below meth c s₁ Bd hml0 hP hK
  obtain ⟨rfl, hZ, hh⟩ := hP
  have hx := Bd.exec
  have hby := Bd.bytes
  have hlk := Bd.notSynchronized
  have hml : c.maxLocals = 3 := hml0
  have hown : s.vm.findClass "java/lang/StringUTF16" = some m.cls := findClass_of_methodNamed Bd.named
  have hnm := (name_of_methodNamed Bd.named Bd.method).1
  have X0 : Stand p l e ({ frames := 0, cells := 0, slots := 0, locals := 0 } : Room) s m #[(.ref d), (.int (1 : Int32)), (.int q)] below meth c s₁ [] 0 0 := Stand.of_body Bd
  have e0 : s₁.heap = h0 := by rw [← hh, Bd.state]; rfl
  have N0 := Fr.nil n0
  show own_Go p e below (own_R s below (Q_rmPC21 Z d kd q cz z0 z1 z2 z3 h0 n0) ({ frames := 0, cells := 0, slots := 0, locals := 0 } : Room).cells ({ frames := 0, cells := 0, slots := 0, locals := 0 } : Room).slots) (s₁.setTop (entryFrame m #[(.ref d), (.int (1 : Int32)), (.int q)] 3))
  refine own_bk (S' := (s₁.setTop (mkF m 0 #[rv d, iv (1 : Int32), iv q] []))) (fun t_ kont => castTop (ef_rmPC21 m (d) ((1 : Int32)) (q)) kont) ?_
  obtain ⟨T1, X2, e3, st4⟩ := getS2 X0 hx hZ hown (host := "") (Or.inl (hw _ (List.mem_of_getElem? (i := 143) rfl))) Via.refl e0 (SU.2.2.1.ext O.2) (g := (mkF m 0 #[rv d, iv (1 : Int32), iv q] [])) rfl (hb hby d20_0)
  refine own_bk (S' := (T1.setTop (mkF m 3 #[rv d, iv (1 : Int32), iv q] [(.int (1 : Int32))]))) st4 ?_
  refine own_bk (S' := (T1.setTop (mkF m 28 #[rv d, iv (1 : Int32), iv q] []))) (fun t_ kont => XS.ifYes X2.here hx rfl (pc0 := 3) (pc' := 28) rfl (hb hby d20_3) rfl ((if0 _ _).trans (feq (by decide : ¬ ((1 : Int32)) = ((0 : Int32)))).2) (by decide) (by decide) kont) ?_
  refine own_bk (S' := (T1.setTop (mkF m 29 #[rv d, iv (1 : Int32), iv q] [(.int (1 : Int32))]))) (fun t_ kont => XS.iloadN X2.here hx rfl (hb hby d20_28) rfl kont) ?_
  refine own_bk (S' := (T1.setTop (mkF m 30 #[rv d, iv (1 : Int32), iv q] [(.int (1 : Int32)), (.int (1 : Int32))]))) (fun t_ kont => XS.iconst X2.here hx rfl (hb hby d20_29) kont) ?_
  refine own_bk (S' := (T1.setTop (mkF m 31 #[rv d, iv (1 : Int32), iv q] [(.int (2 : Int32))]))) (fun t_ kont => XS.ishl X2.here hx rfl (hb hby d20_30) rfl kont) ?_
  refine own_bk (S' := (T1.setTop (mkF m 32 #[rv d, iv (2 : Int32), iv q] []))) (fun t_ kont => XS.istoreN X2.here hx rfl (hb hby d20_31) rfl (l' := #[rv d, iv (2 : Int32), iv q]) rfl kont) ?_
  refine own_bk (S' := (T1.setTop (mkF m 33 #[rv d, iv (2 : Int32), iv q] [(.ref d)]))) (fun t_ kont => XS.aloadN X2.here hx rfl (hb hby d20_32) rfl rfl kont) ?_
  refine own_bk (S' := (T1.setTop (mkF m 34 #[rv d, iv (2 : Int32), iv q] [(.int (2 : Int32)), (.ref d)]))) (fun t_ kont => XS.iloadN X2.here hx rfl (hb hby d20_33) rfl kont) ?_
  refine own_bk (S' := (T1.setTop (mkF m 37 #[rv d, iv (3 : Int32), iv q] [(.int (2 : Int32)), (.ref d)]))) (fun t_ kont => XS.iinc X2.here hx rfl (hb hby d20_34) rfl (l' := #[rv d, iv (3 : Int32), iv q]) rfl kont) ?_
  refine own_bk (S' := (T1.setTop (mkF m 38 #[rv d, iv (3 : Int32), iv q] [(.int q), (.int (2 : Int32)), (.ref d)]))) (fun t_ kont => XS.iloadN X2.here hx rfl (hb hby d20_37) rfl kont) ?_
  obtain ⟨T5, X6, e7, st8⟩ := getS2 X2 hx hZ hown (host := "") (Or.inl (hw _ (List.mem_of_getElem? (i := 144) rfl))) Via.refl e3 (SU.2.2.2.1.ext O.2) (g := (mkF m 38 #[rv d, iv (3 : Int32), iv q] [(.int q), (.int (2 : Int32)), (.ref d)])) rfl (hb hby d20_38)
  refine own_bk (S' := (T5.setTop (mkF m 41 #[rv d, iv (3 : Int32), iv q] [(.int (0 : Int32)), (.int q), (.int (2 : Int32)), (.ref d)]))) st8 ?_
  refine own_bk (S' := (T5.setTop (mkF m 42 #[rv d, iv (3 : Int32), iv q] [(.int (q >>> ((0 : Int32) &&& 31))), (.int (2 : Int32)), (.ref d)]))) (fun t_ kont => XS.ishr X6.here hx rfl (hb hby d20_41) rfl kont) ?_
  refine own_bk (S' := (T5.setTop (mkF m 43 #[rv d, iv (3 : Int32), iv q] [(.int ((q >>> ((0 : Int32) &&& 31)).toInt8.toInt32)), (.int (2 : Int32)), (.ref d)]))) (fun t_ kont => XS.i2b X6.here hx rfl (hb hby d20_42) rfl kont) ?_
  obtain ⟨c9, A10, q11, S12, M13, H14, U15⟩ := id VD
  obtain ⟨T16, h17, X18, e19, W20, st21⟩ := stB X6 hx hZ e7 A10 (j := (2 : Int32)) (inb_of S12 ⟨(by decide : ¬ ((2 : Int32) < (0 : Int32))), (by decide : (2 : Int32) < (4 : Int32))⟩) (g := (mkF m 43 #[rv d, iv (3 : Int32), iv q] [(.int ((q >>> ((0 : Int32) &&& 31)).toInt8.toInt32)), (.int (2 : Int32)), (.ref d)])) rfl rfl (hb hby d20_43)
  have N22 := Fr.snoc X18 N0 ag
  have Z23 := Nat.le_trans Z0 (Keep.of_wr W20).1
  have O24 := O.wr W20 ag
  have K25 := (Keep.refl h0 [d]).wr W20 (Or.inl (List.mem_of_getElem? (i := 0) rfl))
  have V26 : Arv Z h17 d kd .byte (4 : Int32) [z0, z1, (.int (nar .byte ((q >>> ((0 : Int32) &&& 31)).toInt8.toInt32))), z3] (.int (0 : Int32)) := (Arv.set A10 q11 S12 M13 H14 U15 (fits_nar_byte _) W20 2 rfl (Nat.le_of_ble_eq_true rfl))
  refine own_bk (S' := (T16.setTop (mkF m 44 #[rv d, iv (3 : Int32), iv q] []))) st21 ?_
  refine own_bk (S' := (T16.setTop (mkF m 45 #[rv d, iv (3 : Int32), iv q] [(.ref d)]))) (fun t_ kont => XS.aloadN X18.here hx rfl (hb hby d20_44) rfl rfl kont) ?_
  refine own_bk (S' := (T16.setTop (mkF m 46 #[rv d, iv (3 : Int32), iv q] [(.int (3 : Int32)), (.ref d)]))) (fun t_ kont => XS.iloadN X18.here hx rfl (hb hby d20_45) rfl kont) ?_
  refine own_bk (S' := (T16.setTop (mkF m 47 #[rv d, iv (3 : Int32), iv q] [(.int q), (.int (3 : Int32)), (.ref d)]))) (fun t_ kont => XS.iloadN X18.here hx rfl (hb hby d20_46) rfl kont) ?_
  obtain ⟨T27, X28, e29, st30⟩ := getS2 X18 hx hZ hown (host := "") (Or.inl (hw _ (List.mem_of_getElem? (i := 145) rfl))) Via.refl e19 (SU.2.2.2.2.ext O24.2) (g := (mkF m 47 #[rv d, iv (3 : Int32), iv q] [(.int q), (.int (3 : Int32)), (.ref d)])) rfl (hb hby d20_47)
  refine own_bk (S' := (T27.setTop (mkF m 50 #[rv d, iv (3 : Int32), iv q] [(.int (8 : Int32)), (.int q), (.int (3 : Int32)), (.ref d)]))) st30 ?_
  refine own_bk (S' := (T27.setTop (mkF m 51 #[rv d, iv (3 : Int32), iv q] [(.int (q >>> ((8 : Int32) &&& 31))), (.int (3 : Int32)), (.ref d)]))) (fun t_ kont => XS.ishr X28.here hx rfl (hb hby d20_50) rfl kont) ?_
  refine own_bk (S' := (T27.setTop (mkF m 52 #[rv d, iv (3 : Int32), iv q] [(.int ((q >>> ((8 : Int32) &&& 31)).toInt8.toInt32)), (.int (3 : Int32)), (.ref d)]))) (fun t_ kont => XS.i2b X28.here hx rfl (hb hby d20_51) rfl kont) ?_
  obtain ⟨c31, A32, q33, S34, M35, H36, U37⟩ := id V26
  obtain ⟨T38, h39, X40, e41, W42, st43⟩ := stB X28 hx hZ e29 A32 (j := (3 : Int32)) (inb_of S34 ⟨(by decide : ¬ ((3 : Int32) < (0 : Int32))), (by decide : (3 : Int32) < (4 : Int32))⟩) (g := (mkF m 52 #[rv d, iv (3 : Int32), iv q] [(.int ((q >>> ((8 : Int32) &&& 31)).toInt8.toInt32)), (.int (3 : Int32)), (.ref d)])) rfl rfl (hb hby d20_52)
  have N44 := Fr.snoc X40 N22 ag
  have Z45 := Nat.le_trans Z23 (Keep.of_wr W42).1
  have O46 := O24.wr W42 ag
  have K47 := K25.wr W42 (Or.inl (List.mem_of_getElem? (i := 0) rfl))
  have V48 : Arv Z h39 d kd .byte (4 : Int32) [z0, z1, (.int (nar .byte ((q >>> ((0 : Int32) &&& 31)).toInt8.toInt32))), (.int (nar .byte ((q >>> ((8 : Int32) &&& 31)).toInt8.toInt32)))] (.int (0 : Int32)) := (Arv.set A32 q33 S34 M35 H36 U37 (fits_nar_byte _) W42 3 rfl (Nat.le_of_ble_eq_true rfl))
  refine own_bk (S' := (T38.setTop (mkF m 53 #[rv d, iv (3 : Int32), iv q] []))) st43 ?_
  exact own_retV X40 hx hlk Bd.returns (hb hby d20_53) (by rw [e41]; exact ⟨rfl, N44, O46, K47, V48⟩) (by decide) (by decide)
theorem ef_rmPC30 (m : MethodId) (x0 : Addr) (x1 : Int32) (x2 : Int32) : entryFrame m #[(.ref x0), (.int x1), (.int x2)] 3 = mkF m 0 #[.val (.ref x0), .val (.int x1), .val (.int x2)] [] := by first | (simp [entryFrame, mkF, argsToLocals, Value.category, maxLocals]; done) | rfl
def Q_rmPC30 (Z : State) (d : Addr) (kd : ClassId) (q cz : Int32) (z0 z1 z2 z3 z4 z5 : Value) (h0 : Heap) (n0 : Nat) (v : Option Value) (h : Heap) (L : List Loc) : Prop := v = none ∧ Fr n0 L ∧ Old Z n0 h ∧ Keep h0 h [d] ∧ Arv Z h d kd .byte (6 : Int32) [(.int (own_lo q)), (.int (own_hi q)), z2, z3, z4, z5] (.int (0 : Int32))
set_option maxRecDepth 65536 in
set_option maxHeartbeats 40000000 in
theorem rmPC30 (l : Launch) (Z : State) (a0 : Array Value) (hw : ∀ d ∈ tables_1, d.before a0 Z = true) (ws : List Jvm.Cond) (d : Addr) (kd : ClassId) (q cz : Int32) (z0 z1 z2 z3 z4 z5 : Value) (h0 : Heap) (n0 : Nat) (Z0 : n0 ≤ h0.size) (O : Old Z n0 h0) (SU : own_St Z cz) (VD : Arv Z h0 d kd .byte (6 : Int32) [z0, z1, z2, z3, z4, z5] (.int (0 : Int32))) (ag : n0 ≤ d) :
    MetFree l (⟨"java/lang/StringUTF16", "putChar", "([BII)V"⟩ : MethodName) (head1 (Jvm.Cond.code (⟨"java/lang/StringUTF16", "putChar", "([BII)V"⟩ : MethodName) jdk_52_method_4_code 3 none :: ws) ({ frames := 0, cells := 0, slots := 0, locals := 0 } : Room)) (fun as_ U_ => as_ = #[(.ref d), (.int (0 : Int32)), (.int q)] ∧ Z.Warmed39 U_.vm ∧ U_.heap = h0) (fun _ _ _ _ _ => True) (fun _ U_ o_ U2_ => ∃ v_ L_, o_ = .returned v_ ∧ (Q_rmPC30 Z d kd q cz z0 z1 z2 z3 z4 z5 h0 n0) v_ U2_.heap L_ ∧ FrameEnd U_ o_ U2_ L_ ({ frames := 0, cells := 0, slots := 0, locals := 0 } : Room).cells ({ frames := 0, cells := 0, slots := 0, locals := 0 } : Room).slots) := by
  refine MetFree.of_bodySF (plainFor_of_name (by first | (simp [plainName, overriddenIn]; done) | decide +kernel : plainName "java/lang/StringUTF16" = true)) hisR ?_
  intro p e s m args below meth c s₁ Bd hml0 hP hK
  obtain ⟨rfl, hZ, hh⟩ := hP
  have hx := Bd.exec
  have hby := Bd.bytes
  have hlk := Bd.notSynchronized
  have hml : c.maxLocals = 3 := hml0
  have hown : s.vm.findClass "java/lang/StringUTF16" = some m.cls := findClass_of_methodNamed Bd.named
  have hnm := (name_of_methodNamed Bd.named Bd.method).1
  have X0 : Stand p l e ({ frames := 0, cells := 0, slots := 0, locals := 0 } : Room) s m #[(.ref d), (.int (0 : Int32)), (.int q)] below meth c s₁ [] 0 0 := Stand.of_body Bd
  have e0 : s₁.heap = h0 := by rw [← hh, Bd.state]; rfl
  have N0 := Fr.nil n0
  show own_Go p e below (own_R s below (Q_rmPC30 Z d kd q cz z0 z1 z2 z3 z4 z5 h0 n0) ({ frames := 0, cells := 0, slots := 0, locals := 0 } : Room).cells ({ frames := 0, cells := 0, slots := 0, locals := 0 } : Room).slots) (s₁.setTop (entryFrame m #[(.ref d), (.int (0 : Int32)), (.int q)] 3))
  refine own_bk (S' := (s₁.setTop (mkF m 0 #[rv d, iv (0 : Int32), iv q] []))) (fun t_ kont => castTop (ef_rmPC30 m (d) ((0 : Int32)) (q)) kont) ?_
  obtain ⟨T1, X2, e3, st4⟩ := getS2 X0 hx hZ hown (host := "") (Or.inl (hw _ (List.mem_of_getElem? (i := 143) rfl))) Via.refl e0 (SU.2.2.1.ext O.2) (g := (mkF m 0 #[rv d, iv (0 : Int32), iv q] [])) rfl (hb hby d20_0)
  refine own_bk (S' := (T1.setTop (mkF m 3 #[rv d, iv (0 : Int32), iv q] [(.int (1 : Int32))]))) st4 ?_
  refine own_bk (S' := (T1.setTop (mkF m 28 #[rv d, iv (0 : Int32), iv q] []))) (fun t_ kont => XS.ifYes X2.here hx rfl (pc0 := 3) (pc' := 28) rfl (hb hby d20_3) rfl ((if0 _ _).trans (feq (by decide : ¬ ((1 : Int32)) = ((0 : Int32)))).2) (by decide) (by decide) kont) ?_
  refine own_bk (S' := (T1.setTop (mkF m 29 #[rv d, iv (0 : Int32), iv q] [(.int (0 : Int32))]))) (fun t_ kont => XS.iloadN X2.here hx rfl (hb hby d20_28) rfl kont) ?_
  refine own_bk (S' := (T1.setTop (mkF m 30 #[rv d, iv (0 : Int32), iv q] [(.int (1 : Int32)), (.int (0 : Int32))]))) (fun t_ kont => XS.iconst X2.here hx rfl (hb hby d20_29) kont) ?_
  refine own_bk (S' := (T1.setTop (mkF m 31 #[rv d, iv (0 : Int32), iv q] [(.int (0 : Int32))]))) (fun t_ kont => XS.ishl X2.here hx rfl (hb hby d20_30) rfl kont) ?_
  refine own_bk (S' := (T1.setTop (mkF m 32 #[rv d, iv (0 : Int32), iv q] []))) (fun t_ kont => XS.istoreN X2.here hx rfl (hb hby d20_31) rfl (l' := #[rv d, iv (0 : Int32), iv q]) rfl kont) ?_
  refine own_bk (S' := (T1.setTop (mkF m 33 #[rv d, iv (0 : Int32), iv q] [(.ref d)]))) (fun t_ kont => XS.aloadN X2.here hx rfl (hb hby d20_32) rfl rfl kont) ?_
  refine own_bk (S' := (T1.setTop (mkF m 34 #[rv d, iv (0 : Int32), iv q] [(.int (0 : Int32)), (.ref d)]))) (fun t_ kont => XS.iloadN X2.here hx rfl (hb hby d20_33) rfl kont) ?_
  refine own_bk (S' := (T1.setTop (mkF m 37 #[rv d, iv (1 : Int32), iv q] [(.int (0 : Int32)), (.ref d)]))) (fun t_ kont => XS.iinc X2.here hx rfl (hb hby d20_34) rfl (l' := #[rv d, iv (1 : Int32), iv q]) rfl kont) ?_
  refine own_bk (S' := (T1.setTop (mkF m 38 #[rv d, iv (1 : Int32), iv q] [(.int q), (.int (0 : Int32)), (.ref d)]))) (fun t_ kont => XS.iloadN X2.here hx rfl (hb hby d20_37) rfl kont) ?_
  obtain ⟨T5, X6, e7, st8⟩ := getS2 X2 hx hZ hown (host := "") (Or.inl (hw _ (List.mem_of_getElem? (i := 144) rfl))) Via.refl e3 (SU.2.2.2.1.ext O.2) (g := (mkF m 38 #[rv d, iv (1 : Int32), iv q] [(.int q), (.int (0 : Int32)), (.ref d)])) rfl (hb hby d20_38)
  refine own_bk (S' := (T5.setTop (mkF m 41 #[rv d, iv (1 : Int32), iv q] [(.int (0 : Int32)), (.int q), (.int (0 : Int32)), (.ref d)]))) st8 ?_
  refine own_bk (S' := (T5.setTop (mkF m 42 #[rv d, iv (1 : Int32), iv q] [(.int (q >>> ((0 : Int32) &&& 31))), (.int (0 : Int32)), (.ref d)]))) (fun t_ kont => XS.ishr X6.here hx rfl (hb hby d20_41) rfl kont) ?_
  refine own_bk (S' := (T5.setTop (mkF m 43 #[rv d, iv (1 : Int32), iv q] [(.int ((q >>> ((0 : Int32) &&& 31)).toInt8.toInt32)), (.int (0 : Int32)), (.ref d)]))) (fun t_ kont => XS.i2b X6.here hx rfl (hb hby d20_42) rfl kont) ?_
  obtain ⟨c9, A10, q11, S12, M13, H14, U15⟩ := id VD
  obtain ⟨T16, h17, X18, e19, W20, st21⟩ := stB X6 hx hZ e7 A10 (j := (0 : Int32)) (inb_of S12 ⟨(by decide : ¬ ((0 : Int32) < (0 : Int32))), (by decide : (0 : Int32) < (6 : Int32))⟩) (g := (mkF m 43 #[rv d, iv (1 : Int32), iv q] [(.int ((q >>> ((0 : Int32) &&& 31)).toInt8.toInt32)), (.int (0 : Int32)), (.ref d)])) rfl rfl (hb hby d20_43)
  have N22 := Fr.snoc X18 N0 ag
  have Z23 := Nat.le_trans Z0 (Keep.of_wr W20).1
  have O24 := O.wr W20 ag
  have K25 := (Keep.refl h0 [d]).wr W20 (Or.inl (List.mem_of_getElem? (i := 0) rfl))
  have V26 : Arv Z h17 d kd .byte (6 : Int32) [(.int (nar .byte ((q >>> ((0 : Int32) &&& 31)).toInt8.toInt32))), z1, z2, z3, z4, z5] (.int (0 : Int32)) := (Arv.set A10 q11 S12 M13 H14 U15 (fits_nar_byte _) W20 0 rfl (Nat.le_of_ble_eq_true rfl))
  refine own_bk (S' := (T16.setTop (mkF m 44 #[rv d, iv (1 : Int32), iv q] []))) st21 ?_
  refine own_bk (S' := (T16.setTop (mkF m 45 #[rv d, iv (1 : Int32), iv q] [(.ref d)]))) (fun t_ kont => XS.aloadN X18.here hx rfl (hb hby d20_44) rfl rfl kont) ?_
  refine own_bk (S' := (T16.setTop (mkF m 46 #[rv d, iv (1 : Int32), iv q] [(.int (1 : Int32)), (.ref d)]))) (fun t_ kont => XS.iloadN X18.here hx rfl (hb hby d20_45) rfl kont) ?_
  refine own_bk (S' := (T16.setTop (mkF m 47 #[rv d, iv (1 : Int32), iv q] [(.int q), (.int (1 : Int32)), (.ref d)]))) (fun t_ kont => XS.iloadN X18.here hx rfl (hb hby d20_46) rfl kont) ?_
  obtain ⟨T27, X28, e29, st30⟩ := getS2 X18 hx hZ hown (host := "") (Or.inl (hw _ (List.mem_of_getElem? (i := 145) rfl))) Via.refl e19 (SU.2.2.2.2.ext O24.2) (g := (mkF m 47 #[rv d, iv (1 : Int32), iv q] [(.int q), (.int (1 : Int32)), (.ref d)])) rfl (hb hby d20_47)
  refine own_bk (S' := (T27.setTop (mkF m 50 #[rv d, iv (1 : Int32), iv q] [(.int (8 : Int32)), (.int q), (.int (1 : Int32)), (.ref d)]))) st30 ?_
  refine own_bk (S' := (T27.setTop (mkF m 51 #[rv d, iv (1 : Int32), iv q] [(.int (q >>> ((8 : Int32) &&& 31))), (.int (1 : Int32)), (.ref d)]))) (fun t_ kont => XS.ishr X28.here hx rfl (hb hby d20_50) rfl kont) ?_
  refine own_bk (S' := (T27.setTop (mkF m 52 #[rv d, iv (1 : Int32), iv q] [(.int ((q >>> ((8 : Int32) &&& 31)).toInt8.toInt32)), (.int (1 : Int32)), (.ref d)]))) (fun t_ kont => XS.i2b X28.here hx rfl (hb hby d20_51) rfl kont) ?_
  obtain ⟨c31, A32, q33, S34, M35, H36, U37⟩ := id V26
  obtain ⟨T38, h39, X40, e41, W42, st43⟩ := stB X28 hx hZ e29 A32 (j := (1 : Int32)) (inb_of S34 ⟨(by decide : ¬ ((1 : Int32) < (0 : Int32))), (by decide : (1 : Int32) < (6 : Int32))⟩) (g := (mkF m 52 #[rv d, iv (1 : Int32), iv q] [(.int ((q >>> ((8 : Int32) &&& 31)).toInt8.toInt32)), (.int (1 : Int32)), (.ref d)])) rfl rfl (hb hby d20_52)
  have N44 := Fr.snoc X40 N22 ag
  have Z45 := Nat.le_trans Z23 (Keep.of_wr W42).1
  have O46 := O24.wr W42 ag
  have K47 := K25.wr W42 (Or.inl (List.mem_of_getElem? (i := 0) rfl))
  have V48 : Arv Z h39 d kd .byte (6 : Int32) [(.int (nar .byte ((q >>> ((0 : Int32) &&& 31)).toInt8.toInt32))), (.int (nar .byte ((q >>> ((8 : Int32) &&& 31)).toInt8.toInt32))), z2, z3, z4, z5] (.int (0 : Int32)) := (Arv.set A32 q33 S34 M35 H36 U37 (fits_nar_byte _) W42 1 rfl (Nat.le_of_ble_eq_true rfl))
  refine own_bk (S' := (T38.setTop (mkF m 53 #[rv d, iv (1 : Int32), iv q] []))) st43 ?_
  exact own_retV X40 hx hlk Bd.returns (hb hby d20_53) (by rw [e41]; exact ⟨rfl, N44, O46, K47, V48⟩) (by decide) (by decide)
theorem ef_rmPC31 (m : MethodId) (x0 : Addr) (x1 : Int32) (x2 : Int32) : entryFrame m #[(.ref x0), (.int x1), (.int x2)] 3 = mkF m 0 #[.val (.ref x0), .val (.int x1), .val (.int x2)] [] := by first | (simp [entryFrame, mkF, argsToLocals, Value.category, maxLocals]; done) | rfl
def Q_rmPC31 (Z : State) (d : Addr) (kd : ClassId) (q cz : Int32) (z0 z1 z2 z3 z4 z5 : Value) (h0 : Heap) (n0 : Nat) (v : Option Value) (h : Heap) (L : List Loc) : Prop := v = none ∧ Fr n0 L ∧ Old Z n0 h ∧ Keep h0 h [d] ∧ Arv Z h d kd .byte (6 : Int32) [z0, z1, (.int (own_lo q)), (.int (own_hi q)), z4, z5] (.int (0 : Int32))
set_option maxRecDepth 65536 in
set_option maxHeartbeats 40000000 in
theorem rmPC31 (l : Launch) (Z : State) (a0 : Array Value) (hw : ∀ d ∈ tables_1, d.before a0 Z = true) (ws : List Jvm.Cond) (d : Addr) (kd : ClassId) (q cz : Int32) (z0 z1 z2 z3 z4 z5 : Value) (h0 : Heap) (n0 : Nat) (Z0 : n0 ≤ h0.size) (O : Old Z n0 h0) (SU : own_St Z cz) (VD : Arv Z h0 d kd .byte (6 : Int32) [z0, z1, z2, z3, z4, z5] (.int (0 : Int32))) (ag : n0 ≤ d) :
    MetFree l (⟨"java/lang/StringUTF16", "putChar", "([BII)V"⟩ : MethodName) (head1 (Jvm.Cond.code (⟨"java/lang/StringUTF16", "putChar", "([BII)V"⟩ : MethodName) jdk_52_method_4_code 3 none :: ws) ({ frames := 0, cells := 0, slots := 0, locals := 0 } : Room)) (fun as_ U_ => as_ = #[(.ref d), (.int (1 : Int32)), (.int q)] ∧ Z.Warmed39 U_.vm ∧ U_.heap = h0) (fun _ _ _ _ _ => True) (fun _ U_ o_ U2_ => ∃ v_ L_, o_ = .returned v_ ∧ (Q_rmPC31 Z d kd q cz z0 z1 z2 z3 z4 z5 h0 n0) v_ U2_.heap L_ ∧ FrameEnd U_ o_ U2_ L_ ({ frames := 0, cells := 0, slots := 0, locals := 0 } : Room).cells ({ frames := 0, cells := 0, slots := 0, locals := 0 } : Room).slots) := by
  refine MetFree.of_bodySF (plainFor_of_name (by first | (simp [plainName, overriddenIn]; done) | decide +kernel : plainName "java/lang/StringUTF16" = true)) hisR ?_
  intro p e s m args below meth c s₁ Bd hml0 hP hK
  obtain ⟨rfl, hZ, hh⟩ := hP
  have hx := Bd.exec
  have hby := Bd.bytes
  have hlk := Bd.notSynchronized
  have hml : c.maxLocals = 3 := hml0
  have hown : s.vm.findClass "java/lang/StringUTF16" = some m.cls := findClass_of_methodNamed Bd.named
  have hnm := (name_of_methodNamed Bd.named Bd.method).1
  have X0 : Stand p l e ({ frames := 0, cells := 0, slots := 0, locals := 0 } : Room) s m #[(.ref d), (.int (1 : Int32)), (.int q)] below meth c s₁ [] 0 0 := Stand.of_body Bd
  have e0 : s₁.heap = h0 := by rw [← hh, Bd.state]; rfl
  have N0 := Fr.nil n0
  show own_Go p e below (own_R s below (Q_rmPC31 Z d kd q cz z0 z1 z2 z3 z4 z5 h0 n0) ({ frames := 0, cells := 0, slots := 0, locals := 0 } : Room).cells ({ frames := 0, cells := 0, slots := 0, locals := 0 } : Room).slots) (s₁.setTop (entryFrame m #[(.ref d), (.int (1 : Int32)), (.int q)] 3))
  refine own_bk (S' := (s₁.setTop (mkF m 0 #[rv d, iv (1 : Int32), iv q] []))) (fun t_ kont => castTop (ef_rmPC31 m (d) ((1 : Int32)) (q)) kont) ?_
  obtain ⟨T1, X2, e3, st4⟩ := getS2 X0 hx hZ hown (host := "") (Or.inl (hw _ (List.mem_of_getElem? (i := 143) rfl))) Via.refl e0 (SU.2.2.1.ext O.2) (g := (mkF m 0 #[rv d, iv (1 : Int32), iv q] [])) rfl (hb hby d20_0)
  refine own_bk (S' := (T1.setTop (mkF m 3 #[rv d, iv (1 : Int32), iv q] [(.int (1 : Int32))]))) st4 ?_
  refine own_bk (S' := (T1.setTop (mkF m 28 #[rv d, iv (1 : Int32), iv q] []))) (fun t_ kont => XS.ifYes X2.here hx rfl (pc0 := 3) (pc' := 28) rfl (hb hby d20_3) rfl ((if0 _ _).trans (feq (by decide : ¬ ((1 : Int32)) = ((0 : Int32)))).2) (by decide) (by decide) kont) ?_
  refine own_bk (S' := (T1.setTop (mkF m 29 #[rv d, iv (1 : Int32), iv q] [(.int (1 : Int32))]))) (fun t_ kont => XS.iloadN X2.here hx rfl (hb hby d20_28) rfl kont) ?_
  refine own_bk (S' := (T1.setTop (mkF m 30 #[rv d, iv (1 : Int32), iv q] [(.int (1 : Int32)), (.int (1 : Int32))]))) (fun t_ kont => XS.iconst X2.here hx rfl (hb hby d20_29) kont) ?_
  refine own_bk (S' := (T1.setTop (mkF m 31 #[rv d, iv (1 : Int32), iv q] [(.int (2 : Int32))]))) (fun t_ kont => XS.ishl X2.here hx rfl (hb hby d20_30) rfl kont) ?_
  refine own_bk (S' := (T1.setTop (mkF m 32 #[rv d, iv (2 : Int32), iv q] []))) (fun t_ kont => XS.istoreN X2.here hx rfl (hb hby d20_31) rfl (l' := #[rv d, iv (2 : Int32), iv q]) rfl kont) ?_
  refine own_bk (S' := (T1.setTop (mkF m 33 #[rv d, iv (2 : Int32), iv q] [(.ref d)]))) (fun t_ kont => XS.aloadN X2.here hx rfl (hb hby d20_32) rfl rfl kont) ?_
  refine own_bk (S' := (T1.setTop (mkF m 34 #[rv d, iv (2 : Int32), iv q] [(.int (2 : Int32)), (.ref d)]))) (fun t_ kont => XS.iloadN X2.here hx rfl (hb hby d20_33) rfl kont) ?_
  refine own_bk (S' := (T1.setTop (mkF m 37 #[rv d, iv (3 : Int32), iv q] [(.int (2 : Int32)), (.ref d)]))) (fun t_ kont => XS.iinc X2.here hx rfl (hb hby d20_34) rfl (l' := #[rv d, iv (3 : Int32), iv q]) rfl kont) ?_
  refine own_bk (S' := (T1.setTop (mkF m 38 #[rv d, iv (3 : Int32), iv q] [(.int q), (.int (2 : Int32)), (.ref d)]))) (fun t_ kont => XS.iloadN X2.here hx rfl (hb hby d20_37) rfl kont) ?_
  obtain ⟨T5, X6, e7, st8⟩ := getS2 X2 hx hZ hown (host := "") (Or.inl (hw _ (List.mem_of_getElem? (i := 144) rfl))) Via.refl e3 (SU.2.2.2.1.ext O.2) (g := (mkF m 38 #[rv d, iv (3 : Int32), iv q] [(.int q), (.int (2 : Int32)), (.ref d)])) rfl (hb hby d20_38)
  refine own_bk (S' := (T5.setTop (mkF m 41 #[rv d, iv (3 : Int32), iv q] [(.int (0 : Int32)), (.int q), (.int (2 : Int32)), (.ref d)]))) st8 ?_
  refine own_bk (S' := (T5.setTop (mkF m 42 #[rv d, iv (3 : Int32), iv q] [(.int (q >>> ((0 : Int32) &&& 31))), (.int (2 : Int32)), (.ref d)]))) (fun t_ kont => XS.ishr X6.here hx rfl (hb hby d20_41) rfl kont) ?_
  refine own_bk (S' := (T5.setTop (mkF m 43 #[rv d, iv (3 : Int32), iv q] [(.int ((q >>> ((0 : Int32) &&& 31)).toInt8.toInt32)), (.int (2 : Int32)), (.ref d)]))) (fun t_ kont => XS.i2b X6.here hx rfl (hb hby d20_42) rfl kont) ?_
  obtain ⟨c9, A10, q11, S12, M13, H14, U15⟩ := id VD
  obtain ⟨T16, h17, X18, e19, W20, st21⟩ := stB X6 hx hZ e7 A10 (j := (2 : Int32)) (inb_of S12 ⟨(by decide : ¬ ((2 : Int32) < (0 : Int32))), (by decide : (2 : Int32) < (6 : Int32))⟩) (g := (mkF m 43 #[rv d, iv (3 : Int32), iv q] [(.int ((q >>> ((0 : Int32) &&& 31)).toInt8.toInt32)), (.int (2 : Int32)), (.ref d)])) rfl rfl (hb hby d20_43)
  have N22 := Fr.snoc X18 N0 ag
  have Z23 := Nat.le_trans Z0 (Keep.of_wr W20).1
  have O24 := O.wr W20 ag
  have K25 := (Keep.refl h0 [d]).wr W20 (Or.inl (List.mem_of_getElem? (i := 0) rfl))
  have V26 : Arv Z h17 d kd .byte (6 : Int32) [z0, z1, (.int (nar .byte ((q >>> ((0 : Int32) &&& 31)).toInt8.toInt32))), z3, z4, z5] (.int (0 : Int32)) := (Arv.set A10 q11 S12 M13 H14 U15 (fits_nar_byte _) W20 2 rfl (Nat.le_of_ble_eq_true rfl))
  refine own_bk (S' := (T16.setTop (mkF m 44 #[rv d, iv (3 : Int32), iv q] []))) st21 ?_
  refine own_bk (S' := (T16.setTop (mkF m 45 #[rv d, iv (3 : Int32), iv q] [(.ref d)]))) (fun t_ kont => XS.aloadN X18.here hx rfl (hb hby d20_44) rfl rfl kont) ?_
  refine own_bk (S' := (T16.setTop (mkF m 46 #[rv d, iv (3 : Int32), iv q] [(.int (3 : Int32)), (.ref d)]))) (fun t_ kont => XS.iloadN X18.here hx rfl (hb hby d20_45) rfl kont) ?_
  refine own_bk (S' := (T16.setTop (mkF m 47 #[rv d, iv (3 : Int32), iv q] [(.int q), (.int (3 : Int32)), (.ref d)]))) (fun t_ kont => XS.iloadN X18.here hx rfl (hb hby d20_46) rfl kont) ?_
  obtain ⟨T27, X28, e29, st30⟩ := getS2 X18 hx hZ hown (host := "") (Or.inl (hw _ (List.mem_of_getElem? (i := 145) rfl))) Via.refl e19 (SU.2.2.2.2.ext O24.2) (g := (mkF m 47 #[rv d, iv (3 : Int32), iv q] [(.int q), (.int (3 : Int32)), (.ref d)])) rfl (hb hby d20_47)
  refine own_bk (S' := (T27.setTop (mkF m 50 #[rv d, iv (3 : Int32), iv q] [(.int (8 : Int32)), (.int q), (.int (3 : Int32)), (.ref d)]))) st30 ?_
  refine own_bk (S' := (T27.setTop (mkF m 51 #[rv d, iv (3 : Int32), iv q] [(.int (q >>> ((8 : Int32) &&& 31))), (.int (3 : Int32)), (.ref d)]))) (fun t_ kont => XS.ishr X28.here hx rfl (hb hby d20_50) rfl kont) ?_
  refine own_bk (S' := (T27.setTop (mkF m 52 #[rv d, iv (3 : Int32), iv q] [(.int ((q >>> ((8 : Int32) &&& 31)).toInt8.toInt32)), (.int (3 : Int32)), (.ref d)]))) (fun t_ kont => XS.i2b X28.here hx rfl (hb hby d20_51) rfl kont) ?_
  obtain ⟨c31, A32, q33, S34, M35, H36, U37⟩ := id V26
  obtain ⟨T38, h39, X40, e41, W42, st43⟩ := stB X28 hx hZ e29 A32 (j := (3 : Int32)) (inb_of S34 ⟨(by decide : ¬ ((3 : Int32) < (0 : Int32))), (by decide : (3 : Int32) < (6 : Int32))⟩) (g := (mkF m 52 #[rv d, iv (3 : Int32), iv q] [(.int ((q >>> ((8 : Int32) &&& 31)).toInt8.toInt32)), (.int (3 : Int32)), (.ref d)])) rfl rfl (hb hby d20_52)
  have N44 := Fr.snoc X40 N22 ag
  have Z45 := Nat.le_trans Z23 (Keep.of_wr W42).1
  have O46 := O24.wr W42 ag
  have K47 := K25.wr W42 (Or.inl (List.mem_of_getElem? (i := 0) rfl))
  have V48 : Arv Z h39 d kd .byte (6 : Int32) [z0, z1, (.int (nar .byte ((q >>> ((0 : Int32) &&& 31)).toInt8.toInt32))), (.int (nar .byte ((q >>> ((8 : Int32) &&& 31)).toInt8.toInt32))), z4, z5] (.int (0 : Int32)) := (Arv.set A32 q33 S34 M35 H36 U37 (fits_nar_byte _) W42 3 rfl (Nat.le_of_ble_eq_true rfl))
  refine own_bk (S' := (T38.setTop (mkF m 53 #[rv d, iv (3 : Int32), iv q] []))) st43 ?_
  exact own_retV X40 hx hlk Bd.returns (hb hby d20_53) (by rw [e41]; exact ⟨rfl, N44, O46, K47, V48⟩) (by decide) (by decide)
theorem ef_rmPC32 (m : MethodId) (x0 : Addr) (x1 : Int32) (x2 : Int32) : entryFrame m #[(.ref x0), (.int x1), (.int x2)] 3 = mkF m 0 #[.val (.ref x0), .val (.int x1), .val (.int x2)] [] := by first | (simp [entryFrame, mkF, argsToLocals, Value.category, maxLocals]; done) | rfl
def Q_rmPC32 (Z : State) (d : Addr) (kd : ClassId) (q cz : Int32) (z0 z1 z2 z3 z4 z5 : Value) (h0 : Heap) (n0 : Nat) (v : Option Value) (h : Heap) (L : List Loc) : Prop := v = none ∧ Fr n0 L ∧ Old Z n0 h ∧ Keep h0 h [d] ∧ Arv Z h d kd .byte (6 : Int32) [z0, z1, z2, z3, (.int (own_lo q)), (.int (own_hi q))] (.int (0 : Int32))
set_option maxRecDepth 65536 in
set_option maxHeartbeats 40000000 in
theorem rmPC32 (l : Launch) (Z : State) (a0 : Array Value) (hw : ∀ d ∈ tables_1, d.before a0 Z = true) (ws : List Jvm.Cond) (d : Addr) (kd : ClassId) (q cz : Int32) (z0 z1 z2 z3 z4 z5 : Value) (h0 : Heap) (n0 : Nat) (Z0 : n0 ≤ h0.size) (O : Old Z n0 h0) (SU : own_St Z cz) (VD : Arv Z h0 d kd .byte (6 : Int32) [z0, z1, z2, z3, z4, z5] (.int (0 : Int32))) (ag : n0 ≤ d) :
    MetFree l (⟨"java/lang/StringUTF16", "putChar", "([BII)V"⟩ : MethodName) (head1 (Jvm.Cond.code (⟨"java/lang/StringUTF16", "putChar", "([BII)V"⟩ : MethodName) jdk_52_method_4_code 3 none :: ws) ({ frames := 0, cells := 0, slots := 0, locals := 0 } : Room)) (fun as_ U_ => as_ = #[(.ref d), (.int (2 : Int32)), (.int q)] ∧ Z.Warmed39 U_.vm ∧ U_.heap = h0) (fun _ _ _ _ _ => True) (fun _ U_ o_ U2_ => ∃ v_ L_, o_ = .returned v_ ∧ (Q_rmPC32 Z d kd q cz z0 z1 z2 z3 z4 z5 h0 n0) v_ U2_.heap L_ ∧ FrameEnd U_ o_ U2_ L_ ({ frames := 0, cells := 0, slots := 0, locals := 0 } : Room).cells ({ frames := 0, cells := 0, slots := 0, locals := 0 } : Room).slots) := by
  refine MetFree.of_bodySF (plainFor_of_name (by first | (simp [plainName, overriddenIn]; done) | decide +kernel : plainName "java/lang/StringUTF16" = true)) hisR ?_
  intro p e s m args below meth c s₁ Bd hml0 hP hK
  obtain ⟨rfl, hZ, hh⟩ := hP
  have hx := Bd.exec
  have hby := Bd.bytes
  have hlk := Bd.notSynchronized
  have hml : c.maxLocals = 3 := hml0
  have hown : s.vm.findClass "java/lang/StringUTF16" = some m.cls := findClass_of_methodNamed Bd.named
  have hnm := (name_of_methodNamed Bd.named Bd.method).1
  have X0 : Stand p l e ({ frames := 0, cells := 0, slots := 0, locals := 0 } : Room) s m #[(.ref d), (.int (2 : Int32)), (.int q)] below meth c s₁ [] 0 0 := Stand.of_body Bd
  have e0 : s₁.heap = h0 := by rw [← hh, Bd.state]; rfl
  have N0 := Fr.nil n0
  show own_Go p e below (own_R s below (Q_rmPC32 Z d kd q cz z0 z1 z2 z3 z4 z5 h0 n0) ({ frames := 0, cells := 0, slots := 0, locals := 0 } : Room).cells ({ frames := 0, cells := 0, slots := 0, locals := 0 } : Room).slots) (s₁.setTop (entryFrame m #[(.ref d), (.int (2 : Int32)), (.int q)] 3))
  refine own_bk (S' := (s₁.setTop (mkF m 0 #[rv d, iv (2 : Int32), iv q] []))) (fun t_ kont => castTop (ef_rmPC32 m (d) ((2 : Int32)) (q)) kont) ?_
  obtain ⟨T1, X2, e3, st4⟩ := getS2 X0 hx hZ hown (host := "") (Or.inl (hw _ (List.mem_of_getElem? (i := 143) rfl))) Via.refl e0 (SU.2.2.1.ext O.2) (g := (mkF m 0 #[rv d, iv (2 : Int32), iv q] [])) rfl (hb hby d20_0)
  refine own_bk (S' := (T1.setTop (mkF m 3 #[rv d, iv (2 : Int32), iv q] [(.int (1 : Int32))]))) st4 ?_
  refine own_bk (S' := (T1.setTop (mkF m 28 #[rv d, iv (2 : Int32), iv q] []))) (fun t_ kont => XS.ifYes X2.here hx rfl (pc0 := 3) (pc' := 28) rfl (hb hby d20_3) rfl ((if0 _ _).trans (feq (by decide : ¬ ((1 : Int32)) = ((0 : Int32)))).2) (by decide) (by decide) kont) ?_
  refine own_bk (S' := (T1.setTop (mkF m 29 #[rv d, iv (2 : Int32), iv q] [(.int (2 : Int32))]))) (fun t_ kont => XS.iloadN X2.here hx rfl (hb hby d20_28) rfl kont) ?_
  refine own_bk (S' := (T1.setTop (mkF m 30 #[rv d, iv (2 : Int32), iv q] [(.int (1 : Int32)), (.int (2 : Int32))]))) (fun t_ kont => XS.iconst X2.here hx rfl (hb hby d20_29) kont) ?_
  refine own_bk (S' := (T1.setTop (mkF m 31 #[rv d, iv (2 : Int32), iv q] [(.int (4 : Int32))]))) (fun t_ kont => XS.ishl X2.here hx rfl (hb hby d20_30) rfl kont) ?_
  refine own_bk (S' := (T1.setTop (mkF m 32 #[rv d, iv (4 : Int32), iv q] []))) (fun t_ kont => XS.istoreN X2.here hx rfl (hb hby d20_31) rfl (l' := #[rv d, iv (4 : Int32), iv q]) rfl kont) ?_
  refine own_bk (S' := (T1.setTop (mkF m 33 #[rv d, iv (4 : Int32), iv q] [(.ref d)]))) (fun t_ kont => XS.aloadN X2.here hx rfl (hb hby d20_32) rfl rfl kont) ?_
  refine own_bk (S' := (T1.setTop (mkF m 34 #[rv d, iv (4 : Int32), iv q] [(.int (4 : Int32)), (.ref d)]))) (fun t_ kont => XS.iloadN X2.here hx rfl (hb hby d20_33) rfl kont) ?_
  refine own_bk (S' := (T1.setTop (mkF m 37 #[rv d, iv (5 : Int32), iv q] [(.int (4 : Int32)), (.ref d)]))) (fun t_ kont => XS.iinc X2.here hx rfl (hb hby d20_34) rfl (l' := #[rv d, iv (5 : Int32), iv q]) rfl kont) ?_
  refine own_bk (S' := (T1.setTop (mkF m 38 #[rv d, iv (5 : Int32), iv q] [(.int q), (.int (4 : Int32)), (.ref d)]))) (fun t_ kont => XS.iloadN X2.here hx rfl (hb hby d20_37) rfl kont) ?_
  obtain ⟨T5, X6, e7, st8⟩ := getS2 X2 hx hZ hown (host := "") (Or.inl (hw _ (List.mem_of_getElem? (i := 144) rfl))) Via.refl e3 (SU.2.2.2.1.ext O.2) (g := (mkF m 38 #[rv d, iv (5 : Int32), iv q] [(.int q), (.int (4 : Int32)), (.ref d)])) rfl (hb hby d20_38)
  refine own_bk (S' := (T5.setTop (mkF m 41 #[rv d, iv (5 : Int32), iv q] [(.int (0 : Int32)), (.int q), (.int (4 : Int32)), (.ref d)]))) st8 ?_
  refine own_bk (S' := (T5.setTop (mkF m 42 #[rv d, iv (5 : Int32), iv q] [(.int (q >>> ((0 : Int32) &&& 31))), (.int (4 : Int32)), (.ref d)]))) (fun t_ kont => XS.ishr X6.here hx rfl (hb hby d20_41) rfl kont) ?_
  refine own_bk (S' := (T5.setTop (mkF m 43 #[rv d, iv (5 : Int32), iv q] [(.int ((q >>> ((0 : Int32) &&& 31)).toInt8.toInt32)), (.int (4 : Int32)), (.ref d)]))) (fun t_ kont => XS.i2b X6.here hx rfl (hb hby d20_42) rfl kont) ?_
  obtain ⟨c9, A10, q11, S12, M13, H14, U15⟩ := id VD
  obtain ⟨T16, h17, X18, e19, W20, st21⟩ := stB X6 hx hZ e7 A10 (j := (4 : Int32)) (inb_of S12 ⟨(by decide : ¬ ((4 : Int32) < (0 : Int32))), (by decide : (4 : Int32) < (6 : Int32))⟩) (g := (mkF m 43 #[rv d, iv (5 : Int32), iv q] [(.int ((q >>> ((0 : Int32) &&& 31)).toInt8.toInt32)), (.int (4 : Int32)), (.ref d)])) rfl rfl (hb hby d20_43)
  have N22 := Fr.snoc X18 N0 ag
  have Z23 := Nat.le_trans Z0 (Keep.of_wr W20).1
  have O24 := O.wr W20 ag
  have K25 := (Keep.refl h0 [d]).wr W20 (Or.inl (List.mem_of_getElem? (i := 0) rfl))
  have V26 : Arv Z h17 d kd .byte (6 : Int32) [z0, z1, z2, z3, (.int (nar .byte ((q >>> ((0 : Int32) &&& 31)).toInt8.toInt32))), z5] (.int (0 : Int32)) := (Arv.set A10 q11 S12 M13 H14 U15 (fits_nar_byte _) W20 4 rfl (Nat.le_of_ble_eq_true rfl))
  refine own_bk (S' := (T16.setTop (mkF m 44 #[rv d, iv (5 : Int32), iv q] []))) st21 ?_
  refine own_bk (S' := (T16.setTop (mkF m 45 #[rv d, iv (5 : Int32), iv q] [(.ref d)]))) (fun t_ kont => XS.aloadN X18.here hx rfl (hb hby d20_44) rfl rfl kont) ?_
  refine own_bk (S' := (T16.setTop (mkF m 46 #[rv d, iv (5 : Int32), iv q] [(.int (5 : Int32)), (.ref d)]))) (fun t_ kont => XS.iloadN X18.here hx rfl (hb hby d20_45) rfl kont) ?_
  refine own_bk (S' := (T16.setTop (mkF m 47 #[rv d, iv (5 : Int32), iv q] [(.int q), (.int (5 : Int32)), (.ref d)]))) (fun t_ kont => XS.iloadN X18.here hx rfl (hb hby d20_46) rfl kont) ?_
  obtain ⟨T27, X28, e29, st30⟩ := getS2 X18 hx hZ hown (host := "") (Or.inl (hw _ (List.mem_of_getElem? (i := 145) rfl))) Via.refl e19 (SU.2.2.2.2.ext O24.2) (g := (mkF m 47 #[rv d, iv (5 : Int32), iv q] [(.int q), (.int (5 : Int32)), (.ref d)])) rfl (hb hby d20_47)
  refine own_bk (S' := (T27.setTop (mkF m 50 #[rv d, iv (5 : Int32), iv q] [(.int (8 : Int32)), (.int q), (.int (5 : Int32)), (.ref d)]))) st30 ?_
  refine own_bk (S' := (T27.setTop (mkF m 51 #[rv d, iv (5 : Int32), iv q] [(.int (q >>> ((8 : Int32) &&& 31))), (.int (5 : Int32)), (.ref d)]))) (fun t_ kont => XS.ishr X28.here hx rfl (hb hby d20_50) rfl kont) ?_
  refine own_bk (S' := (T27.setTop (mkF m 52 #[rv d, iv (5 : Int32), iv q] [(.int ((q >>> ((8 : Int32) &&& 31)).toInt8.toInt32)), (.int (5 : Int32)), (.ref d)]))) (fun t_ kont => XS.i2b X28.here hx rfl (hb hby d20_51) rfl kont) ?_
  obtain ⟨c31, A32, q33, S34, M35, H36, U37⟩ := id V26
  obtain ⟨T38, h39, X40, e41, W42, st43⟩ := stB X28 hx hZ e29 A32 (j := (5 : Int32)) (inb_of S34 ⟨(by decide : ¬ ((5 : Int32) < (0 : Int32))), (by decide : (5 : Int32) < (6 : Int32))⟩) (g := (mkF m 52 #[rv d, iv (5 : Int32), iv q] [(.int ((q >>> ((8 : Int32) &&& 31)).toInt8.toInt32)), (.int (5 : Int32)), (.ref d)])) rfl rfl (hb hby d20_52)
  have N44 := Fr.snoc X40 N22 ag
  have Z45 := Nat.le_trans Z23 (Keep.of_wr W42).1
  have O46 := O24.wr W42 ag
  have K47 := K25.wr W42 (Or.inl (List.mem_of_getElem? (i := 0) rfl))
  have V48 : Arv Z h39 d kd .byte (6 : Int32) [z0, z1, z2, z3, (.int (nar .byte ((q >>> ((0 : Int32) &&& 31)).toInt8.toInt32))), (.int (nar .byte ((q >>> ((8 : Int32) &&& 31)).toInt8.toInt32)))] (.int (0 : Int32)) := (Arv.set A32 q33 S34 M35 H36 U37 (fits_nar_byte _) W42 5 rfl (Nat.le_of_ble_eq_true rfl))
  refine own_bk (S' := (T38.setTop (mkF m 53 #[rv d, iv (5 : Int32), iv q] []))) st43 ?_
  exact own_retV X40 hx hlk Bd.returns (hb hby d20_53) (by rw [e41]; exact ⟨rfl, N44, O46, K47, V48⟩) (by decide) (by decide)
theorem d21_0 : decode jdk_52_method_5_code 0 = .ok (.getstatic 44, 3) := by decide +kernel
theorem d21_3 : decode jdk_52_method_5_code 3 = .ok (.ifCond .ne 25, 3) := by decide +kernel
theorem d21_6 : decode jdk_52_method_5_code 6 = .ok (.iload_n 1, 1) := by decide +kernel
theorem d21_7 : decode jdk_52_method_5_code 7 = .ok (.ifCond .lt 11, 3) := by decide +kernel
theorem d21_10 : decode jdk_52_method_5_code 10 = .ok (.iload_n 1, 1) := by decide +kernel
theorem d21_11 : decode jdk_52_method_5_code 11 = .ok (.aload_n 0, 1) := by decide +kernel
theorem d21_12 : decode jdk_52_method_5_code 12 = .ok (.invokestatic 48, 3) := by decide +kernel
theorem d21_15 : decode jdk_52_method_5_code 15 = .ok (.if_icmp .lt 13, 3) := by decide +kernel
theorem d21_18 : decode jdk_52_method_5_code 18 = .ok (.new 52, 3) := by decide +kernel
theorem d21_21 : decode jdk_52_method_5_code 21 = .ok (.dup, 1) := by decide +kernel
theorem d21_22 : decode jdk_52_method_5_code 22 = .ok (.ldc 54, 2) := by decide +kernel
theorem d21_24 : decode jdk_52_method_5_code 24 = .ok (.invokespecial 56, 3) := by decide +kernel
theorem d21_27 : decode jdk_52_method_5_code 27 = .ok (.athrow, 1) := by decide +kernel
theorem d21_28 : decode jdk_52_method_5_code 28 = .ok (.iload_n 1, 1) := by decide +kernel
theorem d21_29 : decode jdk_52_method_5_code 29 = .ok (.iconst 1, 1) := by decide +kernel
theorem d21_30 : decode jdk_52_method_5_code 30 = .ok (.ishl, 1) := by decide +kernel
theorem d21_31 : decode jdk_52_method_5_code 31 = .ok (.istore_n 1, 1) := by decide +kernel
theorem d21_32 : decode jdk_52_method_5_code 32 = .ok (.aload_n 0, 1) := by decide +kernel
theorem d21_33 : decode jdk_52_method_5_code 33 = .ok (.iload_n 1, 1) := by decide +kernel
theorem d21_34 : decode jdk_52_method_5_code 34 = .ok (.iinc 1 1, 3) := by decide +kernel
theorem d21_37 : decode jdk_52_method_5_code 37 = .ok (.baload, 1) := by decide +kernel
theorem d21_38 : decode jdk_52_method_5_code 38 = .ok (.sipush 255, 3) := by decide +kernel
theorem d21_41 : decode jdk_52_method_5_code 41 = .ok (.iand, 1) := by decide +kernel
theorem d21_42 : decode jdk_52_method_5_code 42 = .ok (.getstatic 59, 3) := by decide +kernel
theorem d21_45 : decode jdk_52_method_5_code 45 = .ok (.ishl, 1) := by decide +kernel
theorem d21_46 : decode jdk_52_method_5_code 46 = .ok (.aload_n 0, 1) := by decide +kernel
theorem d21_47 : decode jdk_52_method_5_code 47 = .ok (.iload_n 1, 1) := by decide +kernel
theorem d21_48 : decode jdk_52_method_5_code 48 = .ok (.baload, 1) := by decide +kernel
theorem d21_49 : decode jdk_52_method_5_code 49 = .ok (.sipush 255, 3) := by decide +kernel
theorem d21_52 : decode jdk_52_method_5_code 52 = .ok (.iand, 1) := by decide +kernel
theorem d21_53 : decode jdk_52_method_5_code 53 = .ok (.getstatic 63, 3) := by decide +kernel
theorem d21_56 : decode jdk_52_method_5_code 56 = .ok (.ishl, 1) := by decide +kernel
theorem d21_57 : decode jdk_52_method_5_code 57 = .ok (.ior, 1) := by decide +kernel
theorem d21_58 : decode jdk_52_method_5_code 58 = .ok (.i2c, 1) := by decide +kernel
theorem d21_59 : decode jdk_52_method_5_code 59 = .ok (.ireturn, 1) := by decide +kernel
theorem ef_rmGC20 (m : MethodId) (x0 : Addr) (x1 : Int32) : entryFrame m #[(.ref x0), (.int x1)] 2 = mkF m 0 #[.val (.ref x0), .val (.int x1)] [] := by first | (simp [entryFrame, mkF, argsToLocals, Value.category, maxLocals]; done) | rfl
def Q_rmGC20 (Z : State) (d : Addr) (kd : ClassId) (q cz : Int32) (z2 z3 : Value) (h0 : Heap) (n0 : Nat) (v : Option Value) (h : Heap) (L : List Loc) : Prop := v = some (.int q) ∧ Fr n0 L ∧ h = h0
set_option maxRecDepth 65536 in
set_option maxHeartbeats 40000000 in
theorem rmGC20 (l : Launch) (Z : State) (a0 : Array Value) (hw : ∀ d ∈ tables_1, d.before a0 Z = true) (ws : List Jvm.Cond) (d : Addr) (kd : ClassId) (q cz : Int32) (z2 z3 : Value) (h0 : Heap) (n0 : Nat) (Z0 : n0 ≤ h0.size) (O : Old Z n0 h0) (SU : own_St Z cz) (VD : Arv Z h0 d kd .byte (4 : Int32) [(.int (own_lo q)), (.int (own_hi q)), z2, z3] (.int (0 : Int32))) (lq : ¬ q < 0) (uq : ¬ (65535 : Int32) < q) :
    MetFree l (⟨"java/lang/StringUTF16", "getChar", "([BI)C"⟩ : MethodName) (head1 (Jvm.Cond.code (⟨"java/lang/StringUTF16", "getChar", "([BI)C"⟩ : MethodName) jdk_52_method_5_code 2 (some .char) :: ws) ({ frames := 0, cells := 0, slots := 0, locals := 0 } : Room)) (fun as_ U_ => as_ = #[(.ref d), (.int (0 : Int32))] ∧ Z.Warmed39 U_.vm ∧ U_.heap = h0) (fun _ _ _ _ _ => True) (fun _ U_ o_ U2_ => ∃ v_ L_, o_ = .returned v_ ∧ (Q_rmGC20 Z d kd q cz z2 z3 h0 n0) v_ U2_.heap L_ ∧ FrameEnd U_ o_ U2_ L_ ({ frames := 0, cells := 0, slots := 0, locals := 0 } : Room).cells ({ frames := 0, cells := 0, slots := 0, locals := 0 } : Room).slots) := by
  refine MetFree.of_bodySF (plainFor_of_name (by first | (simp [plainName, overriddenIn]; done) | decide +kernel : plainName "java/lang/StringUTF16" = true)) hisR ?_
  intro p e s m args below meth c s₁ Bd hml0 hP hK
  obtain ⟨rfl, hZ, hh⟩ := hP
  have hx := Bd.exec
  have hby := Bd.bytes
  have hlk := Bd.notSynchronized
  have hml : c.maxLocals = 2 := hml0
  have hown : s.vm.findClass "java/lang/StringUTF16" = some m.cls := findClass_of_methodNamed Bd.named
  have hnm := (name_of_methodNamed Bd.named Bd.method).1
  have X0 : Stand p l e ({ frames := 0, cells := 0, slots := 0, locals := 0 } : Room) s m #[(.ref d), (.int (0 : Int32))] below meth c s₁ [] 0 0 := Stand.of_body Bd
  have e0 : s₁.heap = h0 := by rw [← hh, Bd.state]; rfl
  have N0 := Fr.nil n0
  show own_Go p e below (own_R s below (Q_rmGC20 Z d kd q cz z2 z3 h0 n0) ({ frames := 0, cells := 0, slots := 0, locals := 0 } : Room).cells ({ frames := 0, cells := 0, slots := 0, locals := 0 } : Room).slots) (s₁.setTop (entryFrame m #[(.ref d), (.int (0 : Int32))] 2))
  refine own_bk (S' := (s₁.setTop (mkF m 0 #[rv d, iv (0 : Int32)] []))) (fun t_ kont => castTop (ef_rmGC20 m (d) ((0 : Int32))) kont) ?_
  obtain ⟨T1, X2, e3, st4⟩ := getS2 X0 hx hZ hown (host := "") (Or.inl (hw _ (List.mem_of_getElem? (i := 143) rfl))) Via.refl e0 (SU.2.2.1.ext O.2) (g := (mkF m 0 #[rv d, iv (0 : Int32)] [])) rfl (hb hby d21_0)
  refine own_bk (S' := (T1.setTop (mkF m 3 #[rv d, iv (0 : Int32)] [(.int (1 : Int32))]))) st4 ?_
  refine own_bk (S' := (T1.setTop (mkF m 28 #[rv d, iv (0 : Int32)] []))) (fun t_ kont => XS.ifYes X2.here hx rfl (pc0 := 3) (pc' := 28) rfl (hb hby d21_3) rfl ((if0 _ _).trans (feq (by decide : ¬ ((1 : Int32)) = ((0 : Int32)))).2) (by decide) (by decide) kont) ?_
  refine own_bk (S' := (T1.setTop (mkF m 29 #[rv d, iv (0 : Int32)] [(.int (0 : Int32))]))) (fun t_ kont => XS.iloadN X2.here hx rfl (hb hby d21_28) rfl kont) ?_
  refine own_bk (S' := (T1.setTop (mkF m 30 #[rv d, iv (0 : Int32)] [(.int (1 : Int32)), (.int (0 : Int32))]))) (fun t_ kont => XS.iconst X2.here hx rfl (hb hby d21_29) kont) ?_
  refine own_bk (S' := (T1.setTop (mkF m 31 #[rv d, iv (0 : Int32)] [(.int (0 : Int32))]))) (fun t_ kont => XS.ishl X2.here hx rfl (hb hby d21_30) rfl kont) ?_
  refine own_bk (S' := (T1.setTop (mkF m 32 #[rv d, iv (0 : Int32)] []))) (fun t_ kont => XS.istoreN X2.here hx rfl (hb hby d21_31) rfl (l' := #[rv d, iv (0 : Int32)]) rfl kont) ?_
  refine own_bk (S' := (T1.setTop (mkF m 33 #[rv d, iv (0 : Int32)] [(.ref d)]))) (fun t_ kont => XS.aloadN X2.here hx rfl (hb hby d21_32) rfl rfl kont) ?_
  refine own_bk (S' := (T1.setTop (mkF m 34 #[rv d, iv (0 : Int32)] [(.int (0 : Int32)), (.ref d)]))) (fun t_ kont => XS.iloadN X2.here hx rfl (hb hby d21_33) rfl kont) ?_
  refine own_bk (S' := (T1.setTop (mkF m 37 #[rv d, iv (1 : Int32)] [(.int (0 : Int32)), (.ref d)]))) (fun t_ kont => XS.iinc X2.here hx rfl (hb hby d21_34) rfl (l' := #[rv d, iv (1 : Int32)]) rfl kont) ?_
  obtain ⟨c5, A6, q7, S8, M9, H10, U11⟩ := id VD
  have hin12 := inb_of (j := (0 : Int32)) S8 ⟨(by decide : ¬ ((0 : Int32) < (0 : Int32))), (by decide : (0 : Int32) < (4 : Int32))⟩
  refine own_bk (S' := (T1.setTop (mkF m 38 #[rv d, iv (1 : Int32)] [(.int (own_lo q))]))) (fun t_ kont => X2.baloadBytes hx (j := (0 : Int32)) (v := (.int (own_lo q))) (by rw [show T1.heap = h0 from e3]; exact A6.1) (State.isArrayOf_alike hZ.alike A6.2.1) A6.2.2 hin12 (Has.at H10 hin12 rfl) (g := (mkF m 37 #[rv d, iv (1 : Int32)] [(.int (0 : Int32)), (.ref d)])) rfl rfl (hb hby d21_37) _ kont) ?_
  refine own_bk (S' := (T1.setTop (mkF m 41 #[rv d, iv (1 : Int32)] [(.int (255 : Int32)), (.int (own_lo q))]))) (fun t_ kont => XS.sipush X2.here hx rfl (hb hby d21_38) kont) ?_
  refine own_bk (S' := (T1.setTop (mkF m 42 #[rv d, iv (1 : Int32)] [(.int ((own_lo q) &&& (255 : Int32)))]))) (fun t_ kont => XS.iand X2.here hx rfl (hb hby d21_41) rfl kont) ?_
  obtain ⟨T13, X14, e15, st16⟩ := getS2 X2 hx hZ hown (host := "") (Or.inl (hw _ (List.mem_of_getElem? (i := 144) rfl))) Via.refl e3 (SU.2.2.2.1.ext O.2) (g := (mkF m 42 #[rv d, iv (1 : Int32)] [(.int ((own_lo q) &&& (255 : Int32)))])) rfl (hb hby d21_42)
  refine own_bk (S' := (T13.setTop (mkF m 45 #[rv d, iv (1 : Int32)] [(.int (0 : Int32)), (.int ((own_lo q) &&& (255 : Int32)))]))) st16 ?_
  refine own_bk (S' := (T13.setTop (mkF m 46 #[rv d, iv (1 : Int32)] [(.int (((own_lo q) &&& (255 : Int32)) <<< ((0 : Int32) &&& 31)))]))) (fun t_ kont => XS.ishl X14.here hx rfl (hb hby d21_45) rfl kont) ?_
  refine own_bk (S' := (T13.setTop (mkF m 47 #[rv d, iv (1 : Int32)] [(.ref d), (.int (((own_lo q) &&& (255 : Int32)) <<< ((0 : Int32) &&& 31)))]))) (fun t_ kont => XS.aloadN X14.here hx rfl (hb hby d21_46) rfl rfl kont) ?_
  refine own_bk (S' := (T13.setTop (mkF m 48 #[rv d, iv (1 : Int32)] [(.int (1 : Int32)), (.ref d), (.int (((own_lo q) &&& (255 : Int32)) <<< ((0 : Int32) &&& 31)))]))) (fun t_ kont => XS.iloadN X14.here hx rfl (hb hby d21_47) rfl kont) ?_
  obtain ⟨c17, A18, q19, S20, M21, H22, U23⟩ := id VD
  have hin24 := inb_of (j := (1 : Int32)) S20 ⟨(by decide : ¬ ((1 : Int32) < (0 : Int32))), (by decide : (1 : Int32) < (4 : Int32))⟩
  refine own_bk (S' := (T13.setTop (mkF m 49 #[rv d, iv (1 : Int32)] [(.int (own_hi q)), (.int (((own_lo q) &&& (255 : Int32)) <<< ((0 : Int32) &&& 31)))]))) (fun t_ kont => X14.baloadBytes hx (j := (1 : Int32)) (v := (.int (own_hi q))) (by rw [show T13.heap = h0 from e15]; exact A18.1) (State.isArrayOf_alike hZ.alike A18.2.1) A18.2.2 hin24 (Has.at H22 hin24 rfl) (g := (mkF m 48 #[rv d, iv (1 : Int32)] [(.int (1 : Int32)), (.ref d), (.int (((own_lo q) &&& (255 : Int32)) <<< ((0 : Int32) &&& 31)))])) rfl rfl (hb hby d21_48) _ kont) ?_
  refine own_bk (S' := (T13.setTop (mkF m 52 #[rv d, iv (1 : Int32)] [(.int (255 : Int32)), (.int (own_hi q)), (.int (((own_lo q) &&& (255 : Int32)) <<< ((0 : Int32) &&& 31)))]))) (fun t_ kont => XS.sipush X14.here hx rfl (hb hby d21_49) kont) ?_
  refine own_bk (S' := (T13.setTop (mkF m 53 #[rv d, iv (1 : Int32)] [(.int ((own_hi q) &&& (255 : Int32))), (.int (((own_lo q) &&& (255 : Int32)) <<< ((0 : Int32) &&& 31)))]))) (fun t_ kont => XS.iand X14.here hx rfl (hb hby d21_52) rfl kont) ?_
  obtain ⟨T25, X26, e27, st28⟩ := getS2 X14 hx hZ hown (host := "") (Or.inl (hw _ (List.mem_of_getElem? (i := 145) rfl))) Via.refl e15 (SU.2.2.2.2.ext O.2) (g := (mkF m 53 #[rv d, iv (1 : Int32)] [(.int ((own_hi q) &&& (255 : Int32))), (.int (((own_lo q) &&& (255 : Int32)) <<< ((0 : Int32) &&& 31)))])) rfl (hb hby d21_53)
  refine own_bk (S' := (T25.setTop (mkF m 56 #[rv d, iv (1 : Int32)] [(.int (8 : Int32)), (.int ((own_hi q) &&& (255 : Int32))), (.int (((own_lo q) &&& (255 : Int32)) <<< ((0 : Int32) &&& 31)))]))) st28 ?_
  refine own_bk (S' := (T25.setTop (mkF m 57 #[rv d, iv (1 : Int32)] [(.int (((own_hi q) &&& (255 : Int32)) <<< ((8 : Int32) &&& 31))), (.int (((own_lo q) &&& (255 : Int32)) <<< ((0 : Int32) &&& 31)))]))) (fun t_ kont => XS.ishl X26.here hx rfl (hb hby d21_56) rfl kont) ?_
  refine own_bk (S' := (T25.setTop (mkF m 58 #[rv d, iv (1 : Int32)] [(.int ((((own_lo q) &&& (255 : Int32)) <<< ((0 : Int32) &&& 31)) ||| (((own_hi q) &&& (255 : Int32)) <<< ((8 : Int32) &&& 31))))]))) (fun t_ kont => XS.ior X26.here hx rfl (hb hby d21_57) rfl kont) ?_
  refine own_bk (S' := (T25.setTop (mkF m 59 #[rv d, iv (1 : Int32)] [(.int (((((own_lo q) &&& (255 : Int32)) <<< ((0 : Int32) &&& 31)) ||| (((own_hi q) &&& (255 : Int32)) <<< ((8 : Int32) &&& 31))).toUInt32.toUInt16.toUInt32.toInt32))]))) (fun t_ kont => XS.i2c X26.here hx rfl (hb hby d21_58) rfl kont) ?_
  exact own_retN X26 hx hlk (t := .char) (w := q) Bd.returns (by simp) (hb hby d21_59) (own_gc q lq uq) ⟨rfl, N0, e27⟩ (by decide) (by decide)
theorem ef_rmGC21 (m : MethodId) (x0 : Addr) (x1 : Int32) : entryFrame m #[(.ref x0), (.int x1)] 2 = mkF m 0 #[.val (.ref x0), .val (.int x1)] [] := by first | (simp [entryFrame, mkF, argsToLocals, Value.category, maxLocals]; done) | rfl
def Q_rmGC21 (Z : State) (d : Addr) (kd : ClassId) (q cz : Int32) (z0 z1 : Value) (h0 : Heap) (n0 : Nat) (v : Option Value) (h : Heap) (L : List Loc) : Prop := v = some (.int q) ∧ Fr n0 L ∧ h = h0
set_option maxRecDepth 65536 in
set_option maxHeartbeats 40000000 in
theorem rmGC21 (l : Launch) (Z : State) (a0 : Array Value) (hw : ∀ d ∈ tables_1, d.before a0 Z = true) (ws : List Jvm.Cond) (d : Addr) (kd : ClassId) (q cz : Int32) (z0 z1 : Value) (h0 : Heap) (n0 : Nat) (Z0 : n0 ≤ h0.size) (O : Old Z n0 h0) (SU : own_St Z cz) (VD : Arv Z h0 d kd .byte (4 : Int32) [z0, z1, (.int (own_lo q)), (.int (own_hi q))] (.int (0 : Int32))) (lq : ¬ q < 0) (uq : ¬ (65535 : Int32) < q) :
    MetFree l (⟨"java/lang/StringUTF16", "getChar", "([BI)C"⟩ : MethodName) (head1 (Jvm.Cond.code (⟨"java/lang/StringUTF16", "getChar", "([BI)C"⟩ : MethodName) jdk_52_method_5_code 2 (some .char) :: ws) ({ frames := 0, cells := 0, slots := 0, locals := 0 } : Room)) (fun as_ U_ => as_ = #[(.ref d), (.int (1 : Int32))] ∧ Z.Warmed39 U_.vm ∧ U_.heap = h0) (fun _ _ _ _ _ => True) (fun _ U_ o_ U2_ => ∃ v_ L_, o_ = .returned v_ ∧ (Q_rmGC21 Z d kd q cz z0 z1 h0 n0) v_ U2_.heap L_ ∧ FrameEnd U_ o_ U2_ L_ ({ frames := 0, cells := 0, slots := 0, locals := 0 } : Room).cells ({ frames := 0, cells := 0, slots := 0, locals := 0 } : Room).slots) := by
  refine MetFree.of_bodySF (plainFor_of_name (by first | (simp [plainName, overriddenIn]; done) | decide +kernel : plainName "java/lang/StringUTF16" = true)) hisR ?_
  intro p e s m args below meth c s₁ Bd hml0 hP hK
  obtain ⟨rfl, hZ, hh⟩ := hP
  have hx := Bd.exec
  have hby := Bd.bytes
  have hlk := Bd.notSynchronized
  have hml : c.maxLocals = 2 := hml0
  have hown : s.vm.findClass "java/lang/StringUTF16" = some m.cls := findClass_of_methodNamed Bd.named
  have hnm := (name_of_methodNamed Bd.named Bd.method).1
  have X0 : Stand p l e ({ frames := 0, cells := 0, slots := 0, locals := 0 } : Room) s m #[(.ref d), (.int (1 : Int32))] below meth c s₁ [] 0 0 := Stand.of_body Bd
  have e0 : s₁.heap = h0 := by rw [← hh, Bd.state]; rfl
  have N0 := Fr.nil n0
  show own_Go p e below (own_R s below (Q_rmGC21 Z d kd q cz z0 z1 h0 n0) ({ frames := 0, cells := 0, slots := 0, locals := 0 } : Room).cells ({ frames := 0, cells := 0, slots := 0, locals := 0 } : Room).slots) (s₁.setTop (entryFrame m #[(.ref d), (.int (1 : Int32))] 2))
  refine own_bk (S' := (s₁.setTop (mkF m 0 #[rv d, iv (1 : Int32)] []))) (fun t_ kont => castTop (ef_rmGC21 m (d) ((1 : Int32))) kont) ?_
  obtain ⟨T1, X2, e3, st4⟩ := getS2 X0 hx hZ hown (host := "") (Or.inl (hw _ (List.mem_of_getElem? (i := 143) rfl))) Via.refl e0 (SU.2.2.1.ext O.2) (g := (mkF m 0 #[rv d, iv (1 : Int32)] [])) rfl (hb hby d21_0)
  refine own_bk (S' := (T1.setTop (mkF m 3 #[rv d, iv (1 : Int32)] [(.int (1 : Int32))]))) st4 ?_
  refine own_bk (S' := (T1.setTop (mkF m 28 #[rv d, iv (1 : Int32)] []))) (fun t_ kont => XS.ifYes X2.here hx rfl (pc0 := 3) (pc' := 28) rfl (hb hby d21_3) rfl ((if0 _ _).trans (feq (by decide : ¬ ((1 : Int32)) = ((0 : Int32)))).2) (by decide) (by decide) kont) ?_
  refine own_bk (S' := (T1.setTop (mkF m 29 #[rv d, iv (1 : Int32)] [(.int (1 : Int32))]))) (fun t_ kont => XS.iloadN X2.here hx rfl (hb hby d21_28) rfl kont) ?_
  refine own_bk (S' := (T1.setTop (mkF m 30 #[rv d, iv (1 : Int32)] [(.int (1 : Int32)), (.int (1 : Int32))]))) (fun t_ kont => XS.iconst X2.here hx rfl (hb hby d21_29) kont) ?_
  refine own_bk (S' := (T1.setTop (mkF m 31 #[rv d, iv (1 : Int32)] [(.int (2 : Int32))]))) (fun t_ kont => XS.ishl X2.here hx rfl (hb hby d21_30) rfl kont) ?_
  refine own_bk (S' := (T1.setTop (mkF m 32 #[rv d, iv (2 : Int32)] []))) (fun t_ kont => XS.istoreN X2.here hx rfl (hb hby d21_31) rfl (l' := #[rv d, iv (2 : Int32)]) rfl kont) ?_
  refine own_bk (S' := (T1.setTop (mkF m 33 #[rv d, iv (2 : Int32)] [(.ref d)]))) (fun t_ kont => XS.aloadN X2.here hx rfl (hb hby d21_32) rfl rfl kont) ?_
  refine own_bk (S' := (T1.setTop (mkF m 34 #[rv d, iv (2 : Int32)] [(.int (2 : Int32)), (.ref d)]))) (fun t_ kont => XS.iloadN X2.here hx rfl (hb hby d21_33) rfl kont) ?_
  refine own_bk (S' := (T1.setTop (mkF m 37 #[rv d, iv (3 : Int32)] [(.int (2 : Int32)), (.ref d)]))) (fun t_ kont => XS.iinc X2.here hx rfl (hb hby d21_34) rfl (l' := #[rv d, iv (3 : Int32)]) rfl kont) ?_
  obtain ⟨c5, A6, q7, S8, M9, H10, U11⟩ := id VD
  have hin12 := inb_of (j := (2 : Int32)) S8 ⟨(by decide : ¬ ((2 : Int32) < (0 : Int32))), (by decide : (2 : Int32) < (4 : Int32))⟩
  refine own_bk (S' := (T1.setTop (mkF m 38 #[rv d, iv (3 : Int32)] [(.int (own_lo q))]))) (fun t_ kont => X2.baloadBytes hx (j := (2 : Int32)) (v := (.int (own_lo q))) (by rw [show T1.heap = h0 from e3]; exact A6.1) (State.isArrayOf_alike hZ.alike A6.2.1) A6.2.2 hin12 (Has.at H10 hin12 rfl) (g := (mkF m 37 #[rv d, iv (3 : Int32)] [(.int (2 : Int32)), (.ref d)])) rfl rfl (hb hby d21_37) _ kont) ?_
  refine own_bk (S' := (T1.setTop (mkF m 41 #[rv d, iv (3 : Int32)] [(.int (255 : Int32)), (.int (own_lo q))]))) (fun t_ kont => XS.sipush X2.here hx rfl (hb hby d21_38) kont) ?_
  refine own_bk (S' := (T1.setTop (mkF m 42 #[rv d, iv (3 : Int32)] [(.int ((own_lo q) &&& (255 : Int32)))]))) (fun t_ kont => XS.iand X2.here hx rfl (hb hby d21_41) rfl kont) ?_
  obtain ⟨T13, X14, e15, st16⟩ := getS2 X2 hx hZ hown (host := "") (Or.inl (hw _ (List.mem_of_getElem? (i := 144) rfl))) Via.refl e3 (SU.2.2.2.1.ext O.2) (g := (mkF m 42 #[rv d, iv (3 : Int32)] [(.int ((own_lo q) &&& (255 : Int32)))])) rfl (hb hby d21_42)
  refine own_bk (S' := (T13.setTop (mkF m 45 #[rv d, iv (3 : Int32)] [(.int (0 : Int32)), (.int ((own_lo q) &&& (255 : Int32)))]))) st16 ?_
  refine own_bk (S' := (T13.setTop (mkF m 46 #[rv d, iv (3 : Int32)] [(.int (((own_lo q) &&& (255 : Int32)) <<< ((0 : Int32) &&& 31)))]))) (fun t_ kont => XS.ishl X14.here hx rfl (hb hby d21_45) rfl kont) ?_
  refine own_bk (S' := (T13.setTop (mkF m 47 #[rv d, iv (3 : Int32)] [(.ref d), (.int (((own_lo q) &&& (255 : Int32)) <<< ((0 : Int32) &&& 31)))]))) (fun t_ kont => XS.aloadN X14.here hx rfl (hb hby d21_46) rfl rfl kont) ?_
  refine own_bk (S' := (T13.setTop (mkF m 48 #[rv d, iv (3 : Int32)] [(.int (3 : Int32)), (.ref d), (.int (((own_lo q) &&& (255 : Int32)) <<< ((0 : Int32) &&& 31)))]))) (fun t_ kont => XS.iloadN X14.here hx rfl (hb hby d21_47) rfl kont) ?_
  obtain ⟨c17, A18, q19, S20, M21, H22, U23⟩ := id VD
  have hin24 := inb_of (j := (3 : Int32)) S20 ⟨(by decide : ¬ ((3 : Int32) < (0 : Int32))), (by decide : (3 : Int32) < (4 : Int32))⟩
  refine own_bk (S' := (T13.setTop (mkF m 49 #[rv d, iv (3 : Int32)] [(.int (own_hi q)), (.int (((own_lo q) &&& (255 : Int32)) <<< ((0 : Int32) &&& 31)))]))) (fun t_ kont => X14.baloadBytes hx (j := (3 : Int32)) (v := (.int (own_hi q))) (by rw [show T13.heap = h0 from e15]; exact A18.1) (State.isArrayOf_alike hZ.alike A18.2.1) A18.2.2 hin24 (Has.at H22 hin24 rfl) (g := (mkF m 48 #[rv d, iv (3 : Int32)] [(.int (3 : Int32)), (.ref d), (.int (((own_lo q) &&& (255 : Int32)) <<< ((0 : Int32) &&& 31)))])) rfl rfl (hb hby d21_48) _ kont) ?_
  refine own_bk (S' := (T13.setTop (mkF m 52 #[rv d, iv (3 : Int32)] [(.int (255 : Int32)), (.int (own_hi q)), (.int (((own_lo q) &&& (255 : Int32)) <<< ((0 : Int32) &&& 31)))]))) (fun t_ kont => XS.sipush X14.here hx rfl (hb hby d21_49) kont) ?_
  refine own_bk (S' := (T13.setTop (mkF m 53 #[rv d, iv (3 : Int32)] [(.int ((own_hi q) &&& (255 : Int32))), (.int (((own_lo q) &&& (255 : Int32)) <<< ((0 : Int32) &&& 31)))]))) (fun t_ kont => XS.iand X14.here hx rfl (hb hby d21_52) rfl kont) ?_
  obtain ⟨T25, X26, e27, st28⟩ := getS2 X14 hx hZ hown (host := "") (Or.inl (hw _ (List.mem_of_getElem? (i := 145) rfl))) Via.refl e15 (SU.2.2.2.2.ext O.2) (g := (mkF m 53 #[rv d, iv (3 : Int32)] [(.int ((own_hi q) &&& (255 : Int32))), (.int (((own_lo q) &&& (255 : Int32)) <<< ((0 : Int32) &&& 31)))])) rfl (hb hby d21_53)
  refine own_bk (S' := (T25.setTop (mkF m 56 #[rv d, iv (3 : Int32)] [(.int (8 : Int32)), (.int ((own_hi q) &&& (255 : Int32))), (.int (((own_lo q) &&& (255 : Int32)) <<< ((0 : Int32) &&& 31)))]))) st28 ?_
  refine own_bk (S' := (T25.setTop (mkF m 57 #[rv d, iv (3 : Int32)] [(.int (((own_hi q) &&& (255 : Int32)) <<< ((8 : Int32) &&& 31))), (.int (((own_lo q) &&& (255 : Int32)) <<< ((0 : Int32) &&& 31)))]))) (fun t_ kont => XS.ishl X26.here hx rfl (hb hby d21_56) rfl kont) ?_
  refine own_bk (S' := (T25.setTop (mkF m 58 #[rv d, iv (3 : Int32)] [(.int ((((own_lo q) &&& (255 : Int32)) <<< ((0 : Int32) &&& 31)) ||| (((own_hi q) &&& (255 : Int32)) <<< ((8 : Int32) &&& 31))))]))) (fun t_ kont => XS.ior X26.here hx rfl (hb hby d21_57) rfl kont) ?_
  refine own_bk (S' := (T25.setTop (mkF m 59 #[rv d, iv (3 : Int32)] [(.int (((((own_lo q) &&& (255 : Int32)) <<< ((0 : Int32) &&& 31)) ||| (((own_hi q) &&& (255 : Int32)) <<< ((8 : Int32) &&& 31))).toUInt32.toUInt16.toUInt32.toInt32))]))) (fun t_ kont => XS.i2c X26.here hx rfl (hb hby d21_58) rfl kont) ?_
  exact own_retN X26 hx hlk (t := .char) (w := q) Bd.returns (by simp) (hb hby d21_59) (own_gc q lq uq) ⟨rfl, N0, e27⟩ (by decide) (by decide)
theorem ef_rmGC30 (m : MethodId) (x0 : Addr) (x1 : Int32) : entryFrame m #[(.ref x0), (.int x1)] 2 = mkF m 0 #[.val (.ref x0), .val (.int x1)] [] := by first | (simp [entryFrame, mkF, argsToLocals, Value.category, maxLocals]; done) | rfl
def Q_rmGC30 (Z : State) (d : Addr) (kd : ClassId) (q cz : Int32) (z2 z3 z4 z5 : Value) (h0 : Heap) (n0 : Nat) (v : Option Value) (h : Heap) (L : List Loc) : Prop := v = some (.int q) ∧ Fr n0 L ∧ h = h0
set_option maxRecDepth 65536 in
set_option maxHeartbeats 40000000 in
theorem rmGC30 (l : Launch) (Z : State) (a0 : Array Value) (hw : ∀ d ∈ tables_1, d.before a0 Z = true) (ws : List Jvm.Cond) (d : Addr) (kd : ClassId) (q cz : Int32) (z2 z3 z4 z5 : Value) (h0 : Heap) (n0 : Nat) (Z0 : n0 ≤ h0.size) (O : Old Z n0 h0) (SU : own_St Z cz) (VD : Arv Z h0 d kd .byte (6 : Int32) [(.int (own_lo q)), (.int (own_hi q)), z2, z3, z4, z5] (.int (0 : Int32))) (lq : ¬ q < 0) (uq : ¬ (65535 : Int32) < q) :
    MetFree l (⟨"java/lang/StringUTF16", "getChar", "([BI)C"⟩ : MethodName) (head1 (Jvm.Cond.code (⟨"java/lang/StringUTF16", "getChar", "([BI)C"⟩ : MethodName) jdk_52_method_5_code 2 (some .char) :: ws) ({ frames := 0, cells := 0, slots := 0, locals := 0 } : Room)) (fun as_ U_ => as_ = #[(.ref d), (.int (0 : Int32))] ∧ Z.Warmed39 U_.vm ∧ U_.heap = h0) (fun _ _ _ _ _ => True) (fun _ U_ o_ U2_ => ∃ v_ L_, o_ = .returned v_ ∧ (Q_rmGC30 Z d kd q cz z2 z3 z4 z5 h0 n0) v_ U2_.heap L_ ∧ FrameEnd U_ o_ U2_ L_ ({ frames := 0, cells := 0, slots := 0, locals := 0 } : Room).cells ({ frames := 0, cells := 0, slots := 0, locals := 0 } : Room).slots) := by
  refine MetFree.of_bodySF (plainFor_of_name (by first | (simp [plainName, overriddenIn]; done) | decide +kernel : plainName "java/lang/StringUTF16" = true)) hisR ?_
  intro p e s m args below meth c s₁ Bd hml0 hP hK
  obtain ⟨rfl, hZ, hh⟩ := hP
  have hx := Bd.exec
  have hby := Bd.bytes
  have hlk := Bd.notSynchronized
  have hml : c.maxLocals = 2 := hml0
  have hown : s.vm.findClass "java/lang/StringUTF16" = some m.cls := findClass_of_methodNamed Bd.named
  have hnm := (name_of_methodNamed Bd.named Bd.method).1
  have X0 : Stand p l e ({ frames := 0, cells := 0, slots := 0, locals := 0 } : Room) s m #[(.ref d), (.int (0 : Int32))] below meth c s₁ [] 0 0 := Stand.of_body Bd
  have e0 : s₁.heap = h0 := by rw [← hh, Bd.state]; rfl
  have N0 := Fr.nil n0
  show own_Go p e below (own_R s below (Q_rmGC30 Z d kd q cz z2 z3 z4 z5 h0 n0) ({ frames := 0, cells := 0, slots := 0, locals := 0 } : Room).cells ({ frames := 0, cells := 0, slots := 0, locals := 0 } : Room).slots) (s₁.setTop (entryFrame m #[(.ref d), (.int (0 : Int32))] 2))
  refine own_bk (S' := (s₁.setTop (mkF m 0 #[rv d, iv (0 : Int32)] []))) (fun t_ kont => castTop (ef_rmGC30 m (d) ((0 : Int32))) kont) ?_
  obtain ⟨T1, X2, e3, st4⟩ := getS2 X0 hx hZ hown (host := "") (Or.inl (hw _ (List.mem_of_getElem? (i := 143) rfl))) Via.refl e0 (SU.2.2.1.ext O.2) (g := (mkF m 0 #[rv d, iv (0 : Int32)] [])) rfl (hb hby d21_0)
  refine own_bk (S' := (T1.setTop (mkF m 3 #[rv d, iv (0 : Int32)] [(.int (1 : Int32))]))) st4 ?_
  refine own_bk (S' := (T1.setTop (mkF m 28 #[rv d, iv (0 : Int32)] []))) (fun t_ kont => XS.ifYes X2.here hx rfl (pc0 := 3) (pc' := 28) rfl (hb hby d21_3) rfl ((if0 _ _).trans (feq (by decide : ¬ ((1 : Int32)) = ((0 : Int32)))).2) (by decide) (by decide) kont) ?_
  refine own_bk (S' := (T1.setTop (mkF m 29 #[rv d, iv (0 : Int32)] [(.int (0 : Int32))]))) (fun t_ kont => XS.iloadN X2.here hx rfl (hb hby d21_28) rfl kont) ?_
  refine own_bk (S' := (T1.setTop (mkF m 30 #[rv d, iv (0 : Int32)] [(.int (1 : Int32)), (.int (0 : Int32))]))) (fun t_ kont => XS.iconst X2.here hx rfl (hb hby d21_29) kont) ?_
  refine own_bk (S' := (T1.setTop (mkF m 31 #[rv d, iv (0 : Int32)] [(.int (0 : Int32))]))) (fun t_ kont => XS.ishl X2.here hx rfl (hb hby d21_30) rfl kont) ?_
  refine own_bk (S' := (T1.setTop (mkF m 32 #[rv d, iv (0 : Int32)] []))) (fun t_ kont => XS.istoreN X2.here hx rfl (hb hby d21_31) rfl (l' := #[rv d, iv (0 : Int32)]) rfl kont) ?_
  refine own_bk (S' := (T1.setTop (mkF m 33 #[rv d, iv (0 : Int32)] [(.ref d)]))) (fun t_ kont => XS.aloadN X2.here hx rfl (hb hby d21_32) rfl rfl kont) ?_
  refine own_bk (S' := (T1.setTop (mkF m 34 #[rv d, iv (0 : Int32)] [(.int (0 : Int32)), (.ref d)]))) (fun t_ kont => XS.iloadN X2.here hx rfl (hb hby d21_33) rfl kont) ?_
  refine own_bk (S' := (T1.setTop (mkF m 37 #[rv d, iv (1 : Int32)] [(.int (0 : Int32)), (.ref d)]))) (fun t_ kont => XS.iinc X2.here hx rfl (hb hby d21_34) rfl (l' := #[rv d, iv (1 : Int32)]) rfl kont) ?_
  obtain ⟨c5, A6, q7, S8, M9, H10, U11⟩ := id VD
  have hin12 := inb_of (j := (0 : Int32)) S8 ⟨(by decide : ¬ ((0 : Int32) < (0 : Int32))), (by decide : (0 : Int32) < (6 : Int32))⟩
  refine own_bk (S' := (T1.setTop (mkF m 38 #[rv d, iv (1 : Int32)] [(.int (own_lo q))]))) (fun t_ kont => X2.baloadBytes hx (j := (0 : Int32)) (v := (.int (own_lo q))) (by rw [show T1.heap = h0 from e3]; exact A6.1) (State.isArrayOf_alike hZ.alike A6.2.1) A6.2.2 hin12 (Has.at H10 hin12 rfl) (g := (mkF m 37 #[rv d, iv (1 : Int32)] [(.int (0 : Int32)), (.ref d)])) rfl rfl (hb hby d21_37) _ kont) ?_
  refine own_bk (S' := (T1.setTop (mkF m 41 #[rv d, iv (1 : Int32)] [(.int (255 : Int32)), (.int (own_lo q))]))) (fun t_ kont => XS.sipush X2.here hx rfl (hb hby d21_38) kont) ?_
  refine own_bk (S' := (T1.setTop (mkF m 42 #[rv d, iv (1 : Int32)] [(.int ((own_lo q) &&& (255 : Int32)))]))) (fun t_ kont => XS.iand X2.here hx rfl (hb hby d21_41) rfl kont) ?_
  obtain ⟨T13, X14, e15, st16⟩ := getS2 X2 hx hZ hown (host := "") (Or.inl (hw _ (List.mem_of_getElem? (i := 144) rfl))) Via.refl e3 (SU.2.2.2.1.ext O.2) (g := (mkF m 42 #[rv d, iv (1 : Int32)] [(.int ((own_lo q) &&& (255 : Int32)))])) rfl (hb hby d21_42)
  refine own_bk (S' := (T13.setTop (mkF m 45 #[rv d, iv (1 : Int32)] [(.int (0 : Int32)), (.int ((own_lo q) &&& (255 : Int32)))]))) st16 ?_
  refine own_bk (S' := (T13.setTop (mkF m 46 #[rv d, iv (1 : Int32)] [(.int (((own_lo q) &&& (255 : Int32)) <<< ((0 : Int32) &&& 31)))]))) (fun t_ kont => XS.ishl X14.here hx rfl (hb hby d21_45) rfl kont) ?_
  refine own_bk (S' := (T13.setTop (mkF m 47 #[rv d, iv (1 : Int32)] [(.ref d), (.int (((own_lo q) &&& (255 : Int32)) <<< ((0 : Int32) &&& 31)))]))) (fun t_ kont => XS.aloadN X14.here hx rfl (hb hby d21_46) rfl rfl kont) ?_
  refine own_bk (S' := (T13.setTop (mkF m 48 #[rv d, iv (1 : Int32)] [(.int (1 : Int32)), (.ref d), (.int (((own_lo q) &&& (255 : Int32)) <<< ((0 : Int32) &&& 31)))]))) (fun t_ kont => XS.iloadN X14.here hx rfl (hb hby d21_47) rfl kont) ?_
  obtain ⟨c17, A18, q19, S20, M21, H22, U23⟩ := id VD
  have hin24 := inb_of (j := (1 : Int32)) S20 ⟨(by decide : ¬ ((1 : Int32) < (0 : Int32))), (by decide : (1 : Int32) < (6 : Int32))⟩
  refine own_bk (S' := (T13.setTop (mkF m 49 #[rv d, iv (1 : Int32)] [(.int (own_hi q)), (.int (((own_lo q) &&& (255 : Int32)) <<< ((0 : Int32) &&& 31)))]))) (fun t_ kont => X14.baloadBytes hx (j := (1 : Int32)) (v := (.int (own_hi q))) (by rw [show T13.heap = h0 from e15]; exact A18.1) (State.isArrayOf_alike hZ.alike A18.2.1) A18.2.2 hin24 (Has.at H22 hin24 rfl) (g := (mkF m 48 #[rv d, iv (1 : Int32)] [(.int (1 : Int32)), (.ref d), (.int (((own_lo q) &&& (255 : Int32)) <<< ((0 : Int32) &&& 31)))])) rfl rfl (hb hby d21_48) _ kont) ?_
  refine own_bk (S' := (T13.setTop (mkF m 52 #[rv d, iv (1 : Int32)] [(.int (255 : Int32)), (.int (own_hi q)), (.int (((own_lo q) &&& (255 : Int32)) <<< ((0 : Int32) &&& 31)))]))) (fun t_ kont => XS.sipush X14.here hx rfl (hb hby d21_49) kont) ?_
  refine own_bk (S' := (T13.setTop (mkF m 53 #[rv d, iv (1 : Int32)] [(.int ((own_hi q) &&& (255 : Int32))), (.int (((own_lo q) &&& (255 : Int32)) <<< ((0 : Int32) &&& 31)))]))) (fun t_ kont => XS.iand X14.here hx rfl (hb hby d21_52) rfl kont) ?_
  obtain ⟨T25, X26, e27, st28⟩ := getS2 X14 hx hZ hown (host := "") (Or.inl (hw _ (List.mem_of_getElem? (i := 145) rfl))) Via.refl e15 (SU.2.2.2.2.ext O.2) (g := (mkF m 53 #[rv d, iv (1 : Int32)] [(.int ((own_hi q) &&& (255 : Int32))), (.int (((own_lo q) &&& (255 : Int32)) <<< ((0 : Int32) &&& 31)))])) rfl (hb hby d21_53)
  refine own_bk (S' := (T25.setTop (mkF m 56 #[rv d, iv (1 : Int32)] [(.int (8 : Int32)), (.int ((own_hi q) &&& (255 : Int32))), (.int (((own_lo q) &&& (255 : Int32)) <<< ((0 : Int32) &&& 31)))]))) st28 ?_
  refine own_bk (S' := (T25.setTop (mkF m 57 #[rv d, iv (1 : Int32)] [(.int (((own_hi q) &&& (255 : Int32)) <<< ((8 : Int32) &&& 31))), (.int (((own_lo q) &&& (255 : Int32)) <<< ((0 : Int32) &&& 31)))]))) (fun t_ kont => XS.ishl X26.here hx rfl (hb hby d21_56) rfl kont) ?_
  refine own_bk (S' := (T25.setTop (mkF m 58 #[rv d, iv (1 : Int32)] [(.int ((((own_lo q) &&& (255 : Int32)) <<< ((0 : Int32) &&& 31)) ||| (((own_hi q) &&& (255 : Int32)) <<< ((8 : Int32) &&& 31))))]))) (fun t_ kont => XS.ior X26.here hx rfl (hb hby d21_57) rfl kont) ?_
  refine own_bk (S' := (T25.setTop (mkF m 59 #[rv d, iv (1 : Int32)] [(.int (((((own_lo q) &&& (255 : Int32)) <<< ((0 : Int32) &&& 31)) ||| (((own_hi q) &&& (255 : Int32)) <<< ((8 : Int32) &&& 31))).toUInt32.toUInt16.toUInt32.toInt32))]))) (fun t_ kont => XS.i2c X26.here hx rfl (hb hby d21_58) rfl kont) ?_
  exact own_retN X26 hx hlk (t := .char) (w := q) Bd.returns (by simp) (hb hby d21_59) (own_gc q lq uq) ⟨rfl, N0, e27⟩ (by decide) (by decide)
theorem ef_rmGC31 (m : MethodId) (x0 : Addr) (x1 : Int32) : entryFrame m #[(.ref x0), (.int x1)] 2 = mkF m 0 #[.val (.ref x0), .val (.int x1)] [] := by first | (simp [entryFrame, mkF, argsToLocals, Value.category, maxLocals]; done) | rfl
def Q_rmGC31 (Z : State) (d : Addr) (kd : ClassId) (q cz : Int32) (z0 z1 z4 z5 : Value) (h0 : Heap) (n0 : Nat) (v : Option Value) (h : Heap) (L : List Loc) : Prop := v = some (.int q) ∧ Fr n0 L ∧ h = h0
set_option maxRecDepth 65536 in
set_option maxHeartbeats 40000000 in
theorem rmGC31 (l : Launch) (Z : State) (a0 : Array Value) (hw : ∀ d ∈ tables_1, d.before a0 Z = true) (ws : List Jvm.Cond) (d : Addr) (kd : ClassId) (q cz : Int32) (z0 z1 z4 z5 : Value) (h0 : Heap) (n0 : Nat) (Z0 : n0 ≤ h0.size) (O : Old Z n0 h0) (SU : own_St Z cz) (VD : Arv Z h0 d kd .byte (6 : Int32) [z0, z1, (.int (own_lo q)), (.int (own_hi q)), z4, z5] (.int (0 : Int32))) (lq : ¬ q < 0) (uq : ¬ (65535 : Int32) < q) :
    MetFree l (⟨"java/lang/StringUTF16", "getChar", "([BI)C"⟩ : MethodName) (head1 (Jvm.Cond.code (⟨"java/lang/StringUTF16", "getChar", "([BI)C"⟩ : MethodName) jdk_52_method_5_code 2 (some .char) :: ws) ({ frames := 0, cells := 0, slots := 0, locals := 0 } : Room)) (fun as_ U_ => as_ = #[(.ref d), (.int (1 : Int32))] ∧ Z.Warmed39 U_.vm ∧ U_.heap = h0) (fun _ _ _ _ _ => True) (fun _ U_ o_ U2_ => ∃ v_ L_, o_ = .returned v_ ∧ (Q_rmGC31 Z d kd q cz z0 z1 z4 z5 h0 n0) v_ U2_.heap L_ ∧ FrameEnd U_ o_ U2_ L_ ({ frames := 0, cells := 0, slots := 0, locals := 0 } : Room).cells ({ frames := 0, cells := 0, slots := 0, locals := 0 } : Room).slots) := by
  refine MetFree.of_bodySF (plainFor_of_name (by first | (simp [plainName, overriddenIn]; done) | decide +kernel : plainName "java/lang/StringUTF16" = true)) hisR ?_
  intro p e s m args below meth c s₁ Bd hml0 hP hK
  obtain ⟨rfl, hZ, hh⟩ := hP
  have hx := Bd.exec
  have hby := Bd.bytes
  have hlk := Bd.notSynchronized
  have hml : c.maxLocals = 2 := hml0
  have hown : s.vm.findClass "java/lang/StringUTF16" = some m.cls := findClass_of_methodNamed Bd.named
  have hnm := (name_of_methodNamed Bd.named Bd.method).1
  have X0 : Stand p l e ({ frames := 0, cells := 0, slots := 0, locals := 0 } : Room) s m #[(.ref d), (.int (1 : Int32))] below meth c s₁ [] 0 0 := Stand.of_body Bd
  have e0 : s₁.heap = h0 := by rw [← hh, Bd.state]; rfl
  have N0 := Fr.nil n0
  show own_Go p e below (own_R s below (Q_rmGC31 Z d kd q cz z0 z1 z4 z5 h0 n0) ({ frames := 0, cells := 0, slots := 0, locals := 0 } : Room).cells ({ frames := 0, cells := 0, slots := 0, locals := 0 } : Room).slots) (s₁.setTop (entryFrame m #[(.ref d), (.int (1 : Int32))] 2))
  refine own_bk (S' := (s₁.setTop (mkF m 0 #[rv d, iv (1 : Int32)] []))) (fun t_ kont => castTop (ef_rmGC31 m (d) ((1 : Int32))) kont) ?_
  obtain ⟨T1, X2, e3, st4⟩ := getS2 X0 hx hZ hown (host := "") (Or.inl (hw _ (List.mem_of_getElem? (i := 143) rfl))) Via.refl e0 (SU.2.2.1.ext O.2) (g := (mkF m 0 #[rv d, iv (1 : Int32)] [])) rfl (hb hby d21_0)
  refine own_bk (S' := (T1.setTop (mkF m 3 #[rv d, iv (1 : Int32)] [(.int (1 : Int32))]))) st4 ?_
  refine own_bk (S' := (T1.setTop (mkF m 28 #[rv d, iv (1 : Int32)] []))) (fun t_ kont => XS.ifYes X2.here hx rfl (pc0 := 3) (pc' := 28) rfl (hb hby d21_3) rfl ((if0 _ _).trans (feq (by decide : ¬ ((1 : Int32)) = ((0 : Int32)))).2) (by decide) (by decide) kont) ?_
  refine own_bk (S' := (T1.setTop (mkF m 29 #[rv d, iv (1 : Int32)] [(.int (1 : Int32))]))) (fun t_ kont => XS.iloadN X2.here hx rfl (hb hby d21_28) rfl kont) ?_
  refine own_bk (S' := (T1.setTop (mkF m 30 #[rv d, iv (1 : Int32)] [(.int (1 : Int32)), (.int (1 : Int32))]))) (fun t_ kont => XS.iconst X2.here hx rfl (hb hby d21_29) kont) ?_
  refine own_bk (S' := (T1.setTop (mkF m 31 #[rv d, iv (1 : Int32)] [(.int (2 : Int32))]))) (fun t_ kont => XS.ishl X2.here hx rfl (hb hby d21_30) rfl kont) ?_
  refine own_bk (S' := (T1.setTop (mkF m 32 #[rv d, iv (2 : Int32)] []))) (fun t_ kont => XS.istoreN X2.here hx rfl (hb hby d21_31) rfl (l' := #[rv d, iv (2 : Int32)]) rfl kont) ?_
  refine own_bk (S' := (T1.setTop (mkF m 33 #[rv d, iv (2 : Int32)] [(.ref d)]))) (fun t_ kont => XS.aloadN X2.here hx rfl (hb hby d21_32) rfl rfl kont) ?_
  refine own_bk (S' := (T1.setTop (mkF m 34 #[rv d, iv (2 : Int32)] [(.int (2 : Int32)), (.ref d)]))) (fun t_ kont => XS.iloadN X2.here hx rfl (hb hby d21_33) rfl kont) ?_
  refine own_bk (S' := (T1.setTop (mkF m 37 #[rv d, iv (3 : Int32)] [(.int (2 : Int32)), (.ref d)]))) (fun t_ kont => XS.iinc X2.here hx rfl (hb hby d21_34) rfl (l' := #[rv d, iv (3 : Int32)]) rfl kont) ?_
  obtain ⟨c5, A6, q7, S8, M9, H10, U11⟩ := id VD
  have hin12 := inb_of (j := (2 : Int32)) S8 ⟨(by decide : ¬ ((2 : Int32) < (0 : Int32))), (by decide : (2 : Int32) < (6 : Int32))⟩
  refine own_bk (S' := (T1.setTop (mkF m 38 #[rv d, iv (3 : Int32)] [(.int (own_lo q))]))) (fun t_ kont => X2.baloadBytes hx (j := (2 : Int32)) (v := (.int (own_lo q))) (by rw [show T1.heap = h0 from e3]; exact A6.1) (State.isArrayOf_alike hZ.alike A6.2.1) A6.2.2 hin12 (Has.at H10 hin12 rfl) (g := (mkF m 37 #[rv d, iv (3 : Int32)] [(.int (2 : Int32)), (.ref d)])) rfl rfl (hb hby d21_37) _ kont) ?_
  refine own_bk (S' := (T1.setTop (mkF m 41 #[rv d, iv (3 : Int32)] [(.int (255 : Int32)), (.int (own_lo q))]))) (fun t_ kont => XS.sipush X2.here hx rfl (hb hby d21_38) kont) ?_
  refine own_bk (S' := (T1.setTop (mkF m 42 #[rv d, iv (3 : Int32)] [(.int ((own_lo q) &&& (255 : Int32)))]))) (fun t_ kont => XS.iand X2.here hx rfl (hb hby d21_41) rfl kont) ?_
  obtain ⟨T13, X14, e15, st16⟩ := getS2 X2 hx hZ hown (host := "") (Or.inl (hw _ (List.mem_of_getElem? (i := 144) rfl))) Via.refl e3 (SU.2.2.2.1.ext O.2) (g := (mkF m 42 #[rv d, iv (3 : Int32)] [(.int ((own_lo q) &&& (255 : Int32)))])) rfl (hb hby d21_42)
  refine own_bk (S' := (T13.setTop (mkF m 45 #[rv d, iv (3 : Int32)] [(.int (0 : Int32)), (.int ((own_lo q) &&& (255 : Int32)))]))) st16 ?_
  refine own_bk (S' := (T13.setTop (mkF m 46 #[rv d, iv (3 : Int32)] [(.int (((own_lo q) &&& (255 : Int32)) <<< ((0 : Int32) &&& 31)))]))) (fun t_ kont => XS.ishl X14.here hx rfl (hb hby d21_45) rfl kont) ?_
  refine own_bk (S' := (T13.setTop (mkF m 47 #[rv d, iv (3 : Int32)] [(.ref d), (.int (((own_lo q) &&& (255 : Int32)) <<< ((0 : Int32) &&& 31)))]))) (fun t_ kont => XS.aloadN X14.here hx rfl (hb hby d21_46) rfl rfl kont) ?_
  refine own_bk (S' := (T13.setTop (mkF m 48 #[rv d, iv (3 : Int32)] [(.int (3 : Int32)), (.ref d), (.int (((own_lo q) &&& (255 : Int32)) <<< ((0 : Int32) &&& 31)))]))) (fun t_ kont => XS.iloadN X14.here hx rfl (hb hby d21_47) rfl kont) ?_
  obtain ⟨c17, A18, q19, S20, M21, H22, U23⟩ := id VD
  have hin24 := inb_of (j := (3 : Int32)) S20 ⟨(by decide : ¬ ((3 : Int32) < (0 : Int32))), (by decide : (3 : Int32) < (6 : Int32))⟩
  refine own_bk (S' := (T13.setTop (mkF m 49 #[rv d, iv (3 : Int32)] [(.int (own_hi q)), (.int (((own_lo q) &&& (255 : Int32)) <<< ((0 : Int32) &&& 31)))]))) (fun t_ kont => X14.baloadBytes hx (j := (3 : Int32)) (v := (.int (own_hi q))) (by rw [show T13.heap = h0 from e15]; exact A18.1) (State.isArrayOf_alike hZ.alike A18.2.1) A18.2.2 hin24 (Has.at H22 hin24 rfl) (g := (mkF m 48 #[rv d, iv (3 : Int32)] [(.int (3 : Int32)), (.ref d), (.int (((own_lo q) &&& (255 : Int32)) <<< ((0 : Int32) &&& 31)))])) rfl rfl (hb hby d21_48) _ kont) ?_
  refine own_bk (S' := (T13.setTop (mkF m 52 #[rv d, iv (3 : Int32)] [(.int (255 : Int32)), (.int (own_hi q)), (.int (((own_lo q) &&& (255 : Int32)) <<< ((0 : Int32) &&& 31)))]))) (fun t_ kont => XS.sipush X14.here hx rfl (hb hby d21_49) kont) ?_
  refine own_bk (S' := (T13.setTop (mkF m 53 #[rv d, iv (3 : Int32)] [(.int ((own_hi q) &&& (255 : Int32))), (.int (((own_lo q) &&& (255 : Int32)) <<< ((0 : Int32) &&& 31)))]))) (fun t_ kont => XS.iand X14.here hx rfl (hb hby d21_52) rfl kont) ?_
  obtain ⟨T25, X26, e27, st28⟩ := getS2 X14 hx hZ hown (host := "") (Or.inl (hw _ (List.mem_of_getElem? (i := 145) rfl))) Via.refl e15 (SU.2.2.2.2.ext O.2) (g := (mkF m 53 #[rv d, iv (3 : Int32)] [(.int ((own_hi q) &&& (255 : Int32))), (.int (((own_lo q) &&& (255 : Int32)) <<< ((0 : Int32) &&& 31)))])) rfl (hb hby d21_53)
  refine own_bk (S' := (T25.setTop (mkF m 56 #[rv d, iv (3 : Int32)] [(.int (8 : Int32)), (.int ((own_hi q) &&& (255 : Int32))), (.int (((own_lo q) &&& (255 : Int32)) <<< ((0 : Int32) &&& 31)))]))) st28 ?_
  refine own_bk (S' := (T25.setTop (mkF m 57 #[rv d, iv (3 : Int32)] [(.int (((own_hi q) &&& (255 : Int32)) <<< ((8 : Int32) &&& 31))), (.int (((own_lo q) &&& (255 : Int32)) <<< ((0 : Int32) &&& 31)))]))) (fun t_ kont => XS.ishl X26.here hx rfl (hb hby d21_56) rfl kont) ?_
  refine own_bk (S' := (T25.setTop (mkF m 58 #[rv d, iv (3 : Int32)] [(.int ((((own_lo q) &&& (255 : Int32)) <<< ((0 : Int32) &&& 31)) ||| (((own_hi q) &&& (255 : Int32)) <<< ((8 : Int32) &&& 31))))]))) (fun t_ kont => XS.ior X26.here hx rfl (hb hby d21_57) rfl kont) ?_
  refine own_bk (S' := (T25.setTop (mkF m 59 #[rv d, iv (3 : Int32)] [(.int (((((own_lo q) &&& (255 : Int32)) <<< ((0 : Int32) &&& 31)) ||| (((own_hi q) &&& (255 : Int32)) <<< ((8 : Int32) &&& 31))).toUInt32.toUInt16.toUInt32.toInt32))]))) (fun t_ kont => XS.i2c X26.here hx rfl (hb hby d21_58) rfl kont) ?_
  exact own_retN X26 hx hlk (t := .char) (w := q) Bd.returns (by simp) (hb hby d21_59) (own_gc q lq uq) ⟨rfl, N0, e27⟩ (by decide) (by decide)
theorem ef_rmGC32 (m : MethodId) (x0 : Addr) (x1 : Int32) : entryFrame m #[(.ref x0), (.int x1)] 2 = mkF m 0 #[.val (.ref x0), .val (.int x1)] [] := by first | (simp [entryFrame, mkF, argsToLocals, Value.category, maxLocals]; done) | rfl
def Q_rmGC32 (Z : State) (d : Addr) (kd : ClassId) (q cz : Int32) (z0 z1 z2 z3 : Value) (h0 : Heap) (n0 : Nat) (v : Option Value) (h : Heap) (L : List Loc) : Prop := v = some (.int q) ∧ Fr n0 L ∧ h = h0
set_option maxRecDepth 65536 in
set_option maxHeartbeats 40000000 in
theorem rmGC32 (l : Launch) (Z : State) (a0 : Array Value) (hw : ∀ d ∈ tables_1, d.before a0 Z = true) (ws : List Jvm.Cond) (d : Addr) (kd : ClassId) (q cz : Int32) (z0 z1 z2 z3 : Value) (h0 : Heap) (n0 : Nat) (Z0 : n0 ≤ h0.size) (O : Old Z n0 h0) (SU : own_St Z cz) (VD : Arv Z h0 d kd .byte (6 : Int32) [z0, z1, z2, z3, (.int (own_lo q)), (.int (own_hi q))] (.int (0 : Int32))) (lq : ¬ q < 0) (uq : ¬ (65535 : Int32) < q) :
    MetFree l (⟨"java/lang/StringUTF16", "getChar", "([BI)C"⟩ : MethodName) (head1 (Jvm.Cond.code (⟨"java/lang/StringUTF16", "getChar", "([BI)C"⟩ : MethodName) jdk_52_method_5_code 2 (some .char) :: ws) ({ frames := 0, cells := 0, slots := 0, locals := 0 } : Room)) (fun as_ U_ => as_ = #[(.ref d), (.int (2 : Int32))] ∧ Z.Warmed39 U_.vm ∧ U_.heap = h0) (fun _ _ _ _ _ => True) (fun _ U_ o_ U2_ => ∃ v_ L_, o_ = .returned v_ ∧ (Q_rmGC32 Z d kd q cz z0 z1 z2 z3 h0 n0) v_ U2_.heap L_ ∧ FrameEnd U_ o_ U2_ L_ ({ frames := 0, cells := 0, slots := 0, locals := 0 } : Room).cells ({ frames := 0, cells := 0, slots := 0, locals := 0 } : Room).slots) := by
  refine MetFree.of_bodySF (plainFor_of_name (by first | (simp [plainName, overriddenIn]; done) | decide +kernel : plainName "java/lang/StringUTF16" = true)) hisR ?_
  intro p e s m args below meth c s₁ Bd hml0 hP hK
  obtain ⟨rfl, hZ, hh⟩ := hP
  have hx := Bd.exec
  have hby := Bd.bytes
  have hlk := Bd.notSynchronized
  have hml : c.maxLocals = 2 := hml0
  have hown : s.vm.findClass "java/lang/StringUTF16" = some m.cls := findClass_of_methodNamed Bd.named
  have hnm := (name_of_methodNamed Bd.named Bd.method).1
  have X0 : Stand p l e ({ frames := 0, cells := 0, slots := 0, locals := 0 } : Room) s m #[(.ref d), (.int (2 : Int32))] below meth c s₁ [] 0 0 := Stand.of_body Bd
  have e0 : s₁.heap = h0 := by rw [← hh, Bd.state]; rfl
  have N0 := Fr.nil n0
  show own_Go p e below (own_R s below (Q_rmGC32 Z d kd q cz z0 z1 z2 z3 h0 n0) ({ frames := 0, cells := 0, slots := 0, locals := 0 } : Room).cells ({ frames := 0, cells := 0, slots := 0, locals := 0 } : Room).slots) (s₁.setTop (entryFrame m #[(.ref d), (.int (2 : Int32))] 2))
  refine own_bk (S' := (s₁.setTop (mkF m 0 #[rv d, iv (2 : Int32)] []))) (fun t_ kont => castTop (ef_rmGC32 m (d) ((2 : Int32))) kont) ?_
  obtain ⟨T1, X2, e3, st4⟩ := getS2 X0 hx hZ hown (host := "") (Or.inl (hw _ (List.mem_of_getElem? (i := 143) rfl))) Via.refl e0 (SU.2.2.1.ext O.2) (g := (mkF m 0 #[rv d, iv (2 : Int32)] [])) rfl (hb hby d21_0)
  refine own_bk (S' := (T1.setTop (mkF m 3 #[rv d, iv (2 : Int32)] [(.int (1 : Int32))]))) st4 ?_
  refine own_bk (S' := (T1.setTop (mkF m 28 #[rv d, iv (2 : Int32)] []))) (fun t_ kont => XS.ifYes X2.here hx rfl (pc0 := 3) (pc' := 28) rfl (hb hby d21_3) rfl ((if0 _ _).trans (feq (by decide : ¬ ((1 : Int32)) = ((0 : Int32)))).2) (by decide) (by decide) kont) ?_
  refine own_bk (S' := (T1.setTop (mkF m 29 #[rv d, iv (2 : Int32)] [(.int (2 : Int32))]))) (fun t_ kont => XS.iloadN X2.here hx rfl (hb hby d21_28) rfl kont) ?_
  refine own_bk (S' := (T1.setTop (mkF m 30 #[rv d, iv (2 : Int32)] [(.int (1 : Int32)), (.int (2 : Int32))]))) (fun t_ kont => XS.iconst X2.here hx rfl (hb hby d21_29) kont) ?_
  refine own_bk (S' := (T1.setTop (mkF m 31 #[rv d, iv (2 : Int32)] [(.int (4 : Int32))]))) (fun t_ kont => XS.ishl X2.here hx rfl (hb hby d21_30) rfl kont) ?_
  refine own_bk (S' := (T1.setTop (mkF m 32 #[rv d, iv (4 : Int32)] []))) (fun t_ kont => XS.istoreN X2.here hx rfl (hb hby d21_31) rfl (l' := #[rv d, iv (4 : Int32)]) rfl kont) ?_
  refine own_bk (S' := (T1.setTop (mkF m 33 #[rv d, iv (4 : Int32)] [(.ref d)]))) (fun t_ kont => XS.aloadN X2.here hx rfl (hb hby d21_32) rfl rfl kont) ?_
  refine own_bk (S' := (T1.setTop (mkF m 34 #[rv d, iv (4 : Int32)] [(.int (4 : Int32)), (.ref d)]))) (fun t_ kont => XS.iloadN X2.here hx rfl (hb hby d21_33) rfl kont) ?_
  refine own_bk (S' := (T1.setTop (mkF m 37 #[rv d, iv (5 : Int32)] [(.int (4 : Int32)), (.ref d)]))) (fun t_ kont => XS.iinc X2.here hx rfl (hb hby d21_34) rfl (l' := #[rv d, iv (5 : Int32)]) rfl kont) ?_
  obtain ⟨c5, A6, q7, S8, M9, H10, U11⟩ := id VD
  have hin12 := inb_of (j := (4 : Int32)) S8 ⟨(by decide : ¬ ((4 : Int32) < (0 : Int32))), (by decide : (4 : Int32) < (6 : Int32))⟩
  refine own_bk (S' := (T1.setTop (mkF m 38 #[rv d, iv (5 : Int32)] [(.int (own_lo q))]))) (fun t_ kont => X2.baloadBytes hx (j := (4 : Int32)) (v := (.int (own_lo q))) (by rw [show T1.heap = h0 from e3]; exact A6.1) (State.isArrayOf_alike hZ.alike A6.2.1) A6.2.2 hin12 (Has.at H10 hin12 rfl) (g := (mkF m 37 #[rv d, iv (5 : Int32)] [(.int (4 : Int32)), (.ref d)])) rfl rfl (hb hby d21_37) _ kont) ?_
  refine own_bk (S' := (T1.setTop (mkF m 41 #[rv d, iv (5 : Int32)] [(.int (255 : Int32)), (.int (own_lo q))]))) (fun t_ kont => XS.sipush X2.here hx rfl (hb hby d21_38) kont) ?_
  refine own_bk (S' := (T1.setTop (mkF m 42 #[rv d, iv (5 : Int32)] [(.int ((own_lo q) &&& (255 : Int32)))]))) (fun t_ kont => XS.iand X2.here hx rfl (hb hby d21_41) rfl kont) ?_
  obtain ⟨T13, X14, e15, st16⟩ := getS2 X2 hx hZ hown (host := "") (Or.inl (hw _ (List.mem_of_getElem? (i := 144) rfl))) Via.refl e3 (SU.2.2.2.1.ext O.2) (g := (mkF m 42 #[rv d, iv (5 : Int32)] [(.int ((own_lo q) &&& (255 : Int32)))])) rfl (hb hby d21_42)
  refine own_bk (S' := (T13.setTop (mkF m 45 #[rv d, iv (5 : Int32)] [(.int (0 : Int32)), (.int ((own_lo q) &&& (255 : Int32)))]))) st16 ?_
  refine own_bk (S' := (T13.setTop (mkF m 46 #[rv d, iv (5 : Int32)] [(.int (((own_lo q) &&& (255 : Int32)) <<< ((0 : Int32) &&& 31)))]))) (fun t_ kont => XS.ishl X14.here hx rfl (hb hby d21_45) rfl kont) ?_
  refine own_bk (S' := (T13.setTop (mkF m 47 #[rv d, iv (5 : Int32)] [(.ref d), (.int (((own_lo q) &&& (255 : Int32)) <<< ((0 : Int32) &&& 31)))]))) (fun t_ kont => XS.aloadN X14.here hx rfl (hb hby d21_46) rfl rfl kont) ?_
  refine own_bk (S' := (T13.setTop (mkF m 48 #[rv d, iv (5 : Int32)] [(.int (5 : Int32)), (.ref d), (.int (((own_lo q) &&& (255 : Int32)) <<< ((0 : Int32) &&& 31)))]))) (fun t_ kont => XS.iloadN X14.here hx rfl (hb hby d21_47) rfl kont) ?_
  obtain ⟨c17, A18, q19, S20, M21, H22, U23⟩ := id VD
  have hin24 := inb_of (j := (5 : Int32)) S20 ⟨(by decide : ¬ ((5 : Int32) < (0 : Int32))), (by decide : (5 : Int32) < (6 : Int32))⟩
  refine own_bk (S' := (T13.setTop (mkF m 49 #[rv d, iv (5 : Int32)] [(.int (own_hi q)), (.int (((own_lo q) &&& (255 : Int32)) <<< ((0 : Int32) &&& 31)))]))) (fun t_ kont => X14.baloadBytes hx (j := (5 : Int32)) (v := (.int (own_hi q))) (by rw [show T13.heap = h0 from e15]; exact A18.1) (State.isArrayOf_alike hZ.alike A18.2.1) A18.2.2 hin24 (Has.at H22 hin24 rfl) (g := (mkF m 48 #[rv d, iv (5 : Int32)] [(.int (5 : Int32)), (.ref d), (.int (((own_lo q) &&& (255 : Int32)) <<< ((0 : Int32) &&& 31)))])) rfl rfl (hb hby d21_48) _ kont) ?_
  refine own_bk (S' := (T13.setTop (mkF m 52 #[rv d, iv (5 : Int32)] [(.int (255 : Int32)), (.int (own_hi q)), (.int (((own_lo q) &&& (255 : Int32)) <<< ((0 : Int32) &&& 31)))]))) (fun t_ kont => XS.sipush X14.here hx rfl (hb hby d21_49) kont) ?_
  refine own_bk (S' := (T13.setTop (mkF m 53 #[rv d, iv (5 : Int32)] [(.int ((own_hi q) &&& (255 : Int32))), (.int (((own_lo q) &&& (255 : Int32)) <<< ((0 : Int32) &&& 31)))]))) (fun t_ kont => XS.iand X14.here hx rfl (hb hby d21_52) rfl kont) ?_
  obtain ⟨T25, X26, e27, st28⟩ := getS2 X14 hx hZ hown (host := "") (Or.inl (hw _ (List.mem_of_getElem? (i := 145) rfl))) Via.refl e15 (SU.2.2.2.2.ext O.2) (g := (mkF m 53 #[rv d, iv (5 : Int32)] [(.int ((own_hi q) &&& (255 : Int32))), (.int (((own_lo q) &&& (255 : Int32)) <<< ((0 : Int32) &&& 31)))])) rfl (hb hby d21_53)
  refine own_bk (S' := (T25.setTop (mkF m 56 #[rv d, iv (5 : Int32)] [(.int (8 : Int32)), (.int ((own_hi q) &&& (255 : Int32))), (.int (((own_lo q) &&& (255 : Int32)) <<< ((0 : Int32) &&& 31)))]))) st28 ?_
  refine own_bk (S' := (T25.setTop (mkF m 57 #[rv d, iv (5 : Int32)] [(.int (((own_hi q) &&& (255 : Int32)) <<< ((8 : Int32) &&& 31))), (.int (((own_lo q) &&& (255 : Int32)) <<< ((0 : Int32) &&& 31)))]))) (fun t_ kont => XS.ishl X26.here hx rfl (hb hby d21_56) rfl kont) ?_
  refine own_bk (S' := (T25.setTop (mkF m 58 #[rv d, iv (5 : Int32)] [(.int ((((own_lo q) &&& (255 : Int32)) <<< ((0 : Int32) &&& 31)) ||| (((own_hi q) &&& (255 : Int32)) <<< ((8 : Int32) &&& 31))))]))) (fun t_ kont => XS.ior X26.here hx rfl (hb hby d21_57) rfl kont) ?_
  refine own_bk (S' := (T25.setTop (mkF m 59 #[rv d, iv (5 : Int32)] [(.int (((((own_lo q) &&& (255 : Int32)) <<< ((0 : Int32) &&& 31)) ||| (((own_hi q) &&& (255 : Int32)) <<< ((8 : Int32) &&& 31))).toUInt32.toUInt16.toUInt32.toInt32))]))) (fun t_ kont => XS.i2c X26.here hx rfl (hb hby d21_58) rfl kont) ?_
  exact own_retN X26 hx hlk (t := .char) (w := q) Bd.returns (by simp) (hb hby d21_59) (own_gc q lq uq) ⟨rfl, N0, e27⟩ (by decide) (by decide)
theorem d17_0 : decode jdk_52_method_14_code 0 = .ok (.iload_n 2, 1) := by decide +kernel
theorem d17_1 : decode jdk_52_method_14_code 1 = .ok (.invokestatic 107, 3) := by decide +kernel
theorem d17_4 : decode jdk_52_method_14_code 4 = .ok (.astore_n 3, 1) := by decide +kernel
theorem d17_5 : decode jdk_52_method_14_code 5 = .ok (.iconst 0, 1) := by decide +kernel
theorem d17_6 : decode jdk_52_method_14_code 6 = .ok (.istore 4, 2) := by decide +kernel
theorem d17_8 : decode jdk_52_method_14_code 8 = .ok (.iload 4, 2) := by decide +kernel
theorem d17_10 : decode jdk_52_method_14_code 10 = .ok (.iload_n 2, 1) := by decide +kernel
theorem d17_11 : decode jdk_52_method_14_code 11 = .ok (.if_icmp .ge 21, 3) := by decide +kernel
theorem d17_14 : decode jdk_52_method_14_code 14 = .ok (.aload_n 3, 1) := by decide +kernel
theorem d17_15 : decode jdk_52_method_14_code 15 = .ok (.iload 4, 2) := by decide +kernel
theorem d17_17 : decode jdk_52_method_14_code 17 = .ok (.aload_n 0, 1) := by decide +kernel
theorem d17_18 : decode jdk_52_method_14_code 18 = .ok (.iload_n 1, 1) := by decide +kernel
theorem d17_19 : decode jdk_52_method_14_code 19 = .ok (.caload, 1) := by decide +kernel
theorem d17_20 : decode jdk_52_method_14_code 20 = .ok (.invokestatic 111, 3) := by decide +kernel
theorem d17_23 : decode jdk_52_method_14_code 23 = .ok (.iinc 1 1, 3) := by decide +kernel
theorem d17_26 : decode jdk_52_method_14_code 26 = .ok (.iinc 4 1, 3) := by decide +kernel
theorem d17_29 : decode jdk_52_method_14_code 29 = .ok (.goto (-21), 3) := by decide +kernel
theorem d17_32 : decode jdk_52_method_14_code 32 = .ok (.aload_n 3, 1) := by decide +kernel
theorem d17_33 : decode jdk_52_method_14_code 33 = .ok (.areturn, 1) := by decide +kernel
theorem ef_rmTB2 (m : MethodId) (x0 : Addr) (x1 : Int32) (x2 : Int32) : entryFrame m #[(.ref x0), (.int x1), (.int x2)] 5 = mkF m 0 #[.val (.ref x0), .val (.int x1), .val (.int x2), .unset, .unset] [] := by first | (simp [entryFrame, mkF, argsToLocals, Value.category, maxLocals]; done) | rfl
def Q_rmTB2 (Z : State) (b : Addr) (kb : ClassId) (q0 q1 cz : Int32) (h0 : Heap) (n0 : Nat) (v : Option Value) (h : Heap) (L : List Loc) : Prop := Fr n0 L ∧ Old Z n0 h ∧ Keep h0 h [] ∧ ∃ d kd, v = some (.ref d) ∧ h0.size ≤ d ∧ Arv Z h d kd .byte (4 : Int32) [(.int (own_lo q0)), (.int (own_hi q0)), (.int (own_lo q1)), (.int (own_hi q1))] (.int (0 : Int32))
set_option maxRecDepth 65536 in
set_option maxHeartbeats 40000000 in
theorem rmTB2 (l : Launch) (Z : State) (a0 : Array Value) (hw : ∀ d ∈ tables_1, d.before a0 Z = true) (ws : List Jvm.Cond) (b : Addr) (kb : ClassId) (q0 q1 cz : Int32) (h0 : Heap) (n0 : Nat) (Z0 : n0 ≤ h0.size) (O : Old Z n0 h0) (SU : own_St Z cz) (VB : Arv Z h0 b kb .char (2 : Int32) [(.int q0), (.int q1)] (.int (0 : Int32))) :
    MetFree l (⟨"java/lang/StringUTF16", "toBytes", "([CII)[B"⟩ : MethodName) (head1 (Jvm.Cond.code (⟨"java/lang/StringUTF16", "toBytes", "([CII)[B"⟩ : MethodName) jdk_52_method_14_code 5 (some (.array .byte)) :: ws) ({ frames := 2, cells := 1, slots := 6, locals := 40 } : Room)) (fun as_ U_ => as_ = #[(.ref b), (.int (0 : Int32)), (.int (2 : Int32))] ∧ Z.Warmed39 U_.vm ∧ U_.heap = h0) (fun _ _ _ _ _ => True) (fun _ U_ o_ U2_ => ∃ v_ L_, o_ = .returned v_ ∧ (Q_rmTB2 Z b kb q0 q1 cz h0 n0) v_ U2_.heap L_ ∧ FrameEnd U_ o_ U2_ L_ ({ frames := 2, cells := 1, slots := 6, locals := 40 } : Room).cells ({ frames := 2, cells := 1, slots := 6, locals := 40 } : Room).slots) := by
  refine MetFree.of_bodySF (plainFor_of_name (by first | (simp [plainName, overriddenIn]; done) | decide +kernel : plainName "java/lang/StringUTF16" = true)) hisR ?_
  intro p e s m args below meth c s₁ Bd hml0 hP hK
  obtain ⟨rfl, hZ, hh⟩ := hP
  have hx := Bd.exec
  have hby := Bd.bytes
  have hlk := Bd.notSynchronized
  have hml : c.maxLocals = 5 := hml0
  have hown : s.vm.findClass "java/lang/StringUTF16" = some m.cls := findClass_of_methodNamed Bd.named
  have hnm := (name_of_methodNamed Bd.named Bd.method).1
  have X0 : Stand p l e ({ frames := 2, cells := 1, slots := 6, locals := 40 } : Room) s m #[(.ref b), (.int (0 : Int32)), (.int (2 : Int32))] below meth c s₁ [] 0 0 := Stand.of_body Bd
  have e0 : s₁.heap = h0 := by rw [← hh, Bd.state]; rfl
  have N0 := Fr.nil n0
  show own_Go p e below (own_R s below (Q_rmTB2 Z b kb q0 q1 cz h0 n0) ({ frames := 2, cells := 1, slots := 6, locals := 40 } : Room).cells ({ frames := 2, cells := 1, slots := 6, locals := 40 } : Room).slots) (s₁.setTop (entryFrame m #[(.ref b), (.int (0 : Int32)), (.int (2 : Int32))] 5))
  refine own_bk (S' := (s₁.setTop (mkF m 0 #[rv b, iv (0 : Int32), iv (2 : Int32), .unset, .unset] []))) (fun t_ kont => castTop (ef_rmTB2 m (b) ((0 : Int32)) ((2 : Int32))) kont) ?_
  refine own_bk (S' := (s₁.setTop (mkF m 1 #[rv b, iv (0 : Int32), iv (2 : Int32), .unset, .unset] [(.int (2 : Int32))]))) (fun t_ kont => XS.iloadN X0.here hx rfl (hb hby d17_0) rfl kont) ?_
  obtain ⟨_, _, ⟨T1, L2, k3, n4⟩, -, X5, ⟨Lc6, hQ7, l8, y9, z10⟩, st11⟩ := Jvm.LawKit.callS X0 hx (y := (⟨"java/lang/StringUTF16", "newBytesFor", "(I)[B"⟩ : MethodName)) hown (mvT hZ (hw _ (List.mem_of_getElem? (i := 133) rfl))) (mvT hZ (hw _ (List.mem_of_getElem? (i := 134) rfl))) (mvT hZ (hw _ (List.mem_of_getElem? (i := 122) rfl))) (mvT hZ (hw _ (List.mem_of_getElem? (i := 135) rfl))) (by decide) (backOf (W := 0) (rmNF2 l Z a0 hw [] h0 n0 Z0 O) hZ (hw _ (List.mem_of_getElem? (i := 135) rfl)) (hw _ (List.mem_of_getElem? (i := 122) rfl)) (by decide) (by decide)) (g := (mkF m 1 #[rv b, iv (0 : Int32), iv (2 : Int32), .unset, .unset] [(.int (2 : Int32))])) rfl (by rw [hml]; rfl) (argsL := [(.int (2 : Int32))]) (rest := []) (lenOf (by decide +kernel : parseMethodDescriptor "(I)[B" = some ⟨[.int], some (.array .byte)⟩) rfl) rfl (by show 2 * 0 + _ ≤ _; exact Nat.le_of_eq rfl) (hb hby d17_1) (fun _ _ => ⟨rfl, e0, (by decide : 0 + 1 ≤ _), (by decide : 0 + 6 ≤ _)⟩)
  dsimp only [Pt.U, Pt.locs, Pt.cells, Pt.slots] at X5 l8 y9 z10 st11 hQ7
  subst l8 y9 z10
  obtain ⟨N12, O_, K_, d_, kd_, rfl, dg_, Vd_⟩ := hQ7
  have N14 := Fr.app N0 N12
  have V15 := (VB.keep K_ nin0)
  have Z16 := Nat.le_trans Z0 K_.1
  have O17 := O.keep K_ all0
  have K18 := (Keep.refl h0 []).trans K_ all0
  have nb_ : b ≠ d_ := Nat.ne_of_lt (Nat.lt_of_lt_of_le VB.lt dg_)
  have da_ : n0 ≤ d_ := Nat.le_trans Z0 dg_
  refine own_bk (S' := (T1.setTop (mkF m 4 #[rv b, iv (0 : Int32), iv (2 : Int32), .unset, .unset] [(.ref d_)]))) st11 ?_
  refine own_bk (S' := (T1.setTop (mkF m 5 #[rv b, iv (0 : Int32), iv (2 : Int32), rv d_, .unset] []))) (fun t_ kont => XS.astoreN X5.here hx rfl (hb hby d17_4) rfl rfl (l' := #[rv b, iv (0 : Int32), iv (2 : Int32), rv d_, .unset]) rfl kont) ?_
  refine own_bk (S' := (T1.setTop (mkF m 6 #[rv b, iv (0 : Int32), iv (2 : Int32), rv d_, .unset] [(.int (0 : Int32))]))) (fun t_ kont => XS.iconst X5.here hx rfl (hb hby d17_5) kont) ?_
  refine own_bk (S' := (T1.setTop (mkF m 8 #[rv b, iv (0 : Int32), iv (2 : Int32), rv d_, iv (0 : Int32)] []))) (fun t_ kont => XS.istore X5.here hx rfl (hb hby d17_6) rfl (l' := #[rv b, iv (0 : Int32), iv (2 : Int32), rv d_, iv (0 : Int32)]) rfl kont) ?_
  refine own_bk (S' := (T1.setTop (mkF m 10 #[rv b, iv (0 : Int32), iv (2 : Int32), rv d_, iv (0 : Int32)] [(.int (0 : Int32))]))) (fun t_ kont => XS.iload X5.here hx rfl (hb hby d17_8) rfl kont) ?_
  refine own_bk (S' := (T1.setTop (mkF m 11 #[rv b, iv (0 : Int32), iv (2 : Int32), rv d_, iv (0 : Int32)] [(.int (2 : Int32)), (.int (0 : Int32))]))) (fun t_ kont => XS.iloadN X5.here hx rfl (hb hby d17_10) rfl kont) ?_
  refine own_bk (S' := (T1.setTop (mkF m 14 #[rv b, iv (0 : Int32), iv (2 : Int32), rv d_, iv (0 : Int32)] []))) (fun t_ kont => XS.icmpNo X5.here hx rfl (hb hby d17_11) rfl (tlt (by decide : ((0 : Int32)) < ((2 : Int32)))).2.1 kont) ?_
  refine own_bk (S' := (T1.setTop (mkF m 15 #[rv b, iv (0 : Int32), iv (2 : Int32), rv d_, iv (0 : Int32)] [(.ref d_)]))) (fun t_ kont => XS.aloadN X5.here hx rfl (hb hby d17_14) rfl rfl kont) ?_
  refine own_bk (S' := (T1.setTop (mkF m 17 #[rv b, iv (0 : Int32), iv (2 : Int32), rv d_, iv (0 : Int32)] [(.int (0 : Int32)), (.ref d_)]))) (fun t_ kont => XS.iload X5.here hx rfl (hb hby d17_15) rfl kont) ?_
  refine own_bk (S' := (T1.setTop (mkF m 18 #[rv b, iv (0 : Int32), iv (2 : Int32), rv d_, iv (0 : Int32)] [(.ref b), (.int (0 : Int32)), (.ref d_)]))) (fun t_ kont => XS.aloadN X5.here hx rfl (hb hby d17_17) rfl rfl kont) ?_
  refine own_bk (S' := (T1.setTop (mkF m 19 #[rv b, iv (0 : Int32), iv (2 : Int32), rv d_, iv (0 : Int32)] [(.int (0 : Int32)), (.ref b), (.int (0 : Int32)), (.ref d_)]))) (fun t_ kont => XS.iloadN X5.here hx rfl (hb hby d17_18) rfl kont) ?_
  obtain ⟨c19, A20, q21, S22, M23, H24, U25⟩ := id V15
  have hin26 := inb_of (j := (0 : Int32)) S22 ⟨(by decide : ¬ ((0 : Int32) < (0 : Int32))), (by decide : (0 : Int32) < (2 : Int32))⟩
  refine own_bk (S' := (T1.setTop (mkF m 20 #[rv b, iv (0 : Int32), iv (2 : Int32), rv d_, iv (0 : Int32)] [(.int q0), (.int (0 : Int32)), (.ref d_)]))) (fun t_ kont => X5.caload hx (j := (0 : Int32)) (v := (.int q0)) (by rw [show T1.heap = T1.heap from rfl]; exact A20.1) (State.isArrayOf_alike hZ.alike A20.2.1) A20.2.2 hin26 (Has.at H24 hin26 rfl) (g := (mkF m 19 #[rv b, iv (0 : Int32), iv (2 : Int32), rv d_, iv (0 : Int32)] [(.int (0 : Int32)), (.ref b), (.int (0 : Int32)), (.ref d_)])) rfl rfl (hb hby d17_19) _ kont) ?_
  obtain ⟨_, _, ⟨T30, L31, k32, n33⟩, -, X34, ⟨Lc35, hQ36, l37, y38, z39⟩, st40⟩ := Jvm.LawKit.callS X5 hx (y := (⟨"java/lang/StringUTF16", "putChar", "([BII)V"⟩ : MethodName)) hown (mvT hZ (hw _ (List.mem_of_getElem? (i := 140) rfl))) (mvT hZ (hw _ (List.mem_of_getElem? (i := 141) rfl))) (mvT hZ (hw _ (List.mem_of_getElem? (i := 122) rfl))) (mvT hZ (hw _ (List.mem_of_getElem? (i := 142) rfl))) (by decide) (backOf (W := 0) (rmPC20 l Z a0 hw [] d_ kd_ q0 cz (.int (0 : Int32)) (.int (0 : Int32)) (.int (0 : Int32)) (.int (0 : Int32)) T1.heap n0 Z16 O_ SU Vd_ da_) hZ (hw _ (List.mem_of_getElem? (i := 142) rfl)) (hw _ (List.mem_of_getElem? (i := 122) rfl)) (by decide) (by decide)) (g := (mkF m 20 #[rv b, iv (0 : Int32), iv (2 : Int32), rv d_, iv (0 : Int32)] [(.int q0), (.int (0 : Int32)), (.ref d_)])) rfl (by rw [hml]; rfl) (argsL := [(.ref d_), (.int (0 : Int32)), (.int q0)]) (rest := []) (lenOf (by decide +kernel : parseMethodDescriptor "([BII)V" = some ⟨[(.array .byte), .int, .int], none⟩) rfl) rfl (by show 2 * 0 + _ ≤ _; exact Nat.le_of_eq rfl) (hb hby d17_20) (fun _ _ => ⟨rfl, rfl, (by decide : 1 + 0 ≤ _), (by decide : 6 + 0 ≤ _)⟩)
  dsimp only [Pt.U, Pt.locs, Pt.cells, Pt.slots] at X34 l37 y38 z39 st40 hQ36
  subst l37 y38 z39
  obtain ⟨rfl, N41, O28, K27, V29⟩ := hQ36
  have N43 := Fr.app N14 N41
  have V44 := (V15.keep K27 (ninS nb_ nin0))
  have Z45 := Nat.le_trans Z16 K27.1
  have O46 := O_.keep K27 (allS da_ all0)
  have K47 := K18.trans K27 (allS (Or.inr dg_) all0)
  refine own_bk (S' := (T30.setTop (mkF m 23 #[rv b, iv (0 : Int32), iv (2 : Int32), rv d_, iv (0 : Int32)] []))) st40 ?_
  refine own_bk (S' := (T30.setTop (mkF m 26 #[rv b, iv (1 : Int32), iv (2 : Int32), rv d_, iv (0 : Int32)] []))) (fun t_ kont => XS.iinc X34.here hx rfl (hb hby d17_23) rfl (l' := #[rv b, iv (1 : Int32), iv (2 : Int32), rv d_, iv (0 : Int32)]) rfl kont) ?_
  refine own_bk (S' := (T30.setTop (mkF m 29 #[rv b, iv (1 : Int32), iv (2 : Int32), rv d_, iv (1 : Int32)] []))) (fun t_ kont => XS.iinc X34.here hx rfl (hb hby d17_26) rfl (l' := #[rv b, iv (1 : Int32), iv (2 : Int32), rv d_, iv (1 : Int32)]) rfl kont) ?_
  refine own_bk (S' := (T30.setTop (mkF m 8 #[rv b, iv (1 : Int32), iv (2 : Int32), rv d_, iv (1 : Int32)] []))) (fun t_ kont => XS.goto X34.here hx rfl (pc0 := 29) (pc' := 8) rfl (hb hby d17_29) (by decide) (by decide) kont) ?_
  refine own_bk (S' := (T30.setTop (mkF m 10 #[rv b, iv (1 : Int32), iv (2 : Int32), rv d_, iv (1 : Int32)] [(.int (1 : Int32))]))) (fun t_ kont => XS.iload X34.here hx rfl (hb hby d17_8) rfl kont) ?_
  refine own_bk (S' := (T30.setTop (mkF m 11 #[rv b, iv (1 : Int32), iv (2 : Int32), rv d_, iv (1 : Int32)] [(.int (2 : Int32)), (.int (1 : Int32))]))) (fun t_ kont => XS.iloadN X34.here hx rfl (hb hby d17_10) rfl kont) ?_
  refine own_bk (S' := (T30.setTop (mkF m 14 #[rv b, iv (1 : Int32), iv (2 : Int32), rv d_, iv (1 : Int32)] []))) (fun t_ kont => XS.icmpNo X34.here hx rfl (hb hby d17_11) rfl (tlt (by decide : ((1 : Int32)) < ((2 : Int32)))).2.1 kont) ?_
  refine own_bk (S' := (T30.setTop (mkF m 15 #[rv b, iv (1 : Int32), iv (2 : Int32), rv d_, iv (1 : Int32)] [(.ref d_)]))) (fun t_ kont => XS.aloadN X34.here hx rfl (hb hby d17_14) rfl rfl kont) ?_
  refine own_bk (S' := (T30.setTop (mkF m 17 #[rv b, iv (1 : Int32), iv (2 : Int32), rv d_, iv (1 : Int32)] [(.int (1 : Int32)), (.ref d_)]))) (fun t_ kont => XS.iload X34.here hx rfl (hb hby d17_15) rfl kont) ?_
  refine own_bk (S' := (T30.setTop (mkF m 18 #[rv b, iv (1 : Int32), iv (2 : Int32), rv d_, iv (1 : Int32)] [(.ref b), (.int (1 : Int32)), (.ref d_)]))) (fun t_ kont => XS.aloadN X34.here hx rfl (hb hby d17_17) rfl rfl kont) ?_
  refine own_bk (S' := (T30.setTop (mkF m 19 #[rv b, iv (1 : Int32), iv (2 : Int32), rv d_, iv (1 : Int32)] [(.int (1 : Int32)), (.ref b), (.int (1 : Int32)), (.ref d_)]))) (fun t_ kont => XS.iloadN X34.here hx rfl (hb hby d17_18) rfl kont) ?_
  obtain ⟨c48, A49, q50, S51, M52, H53, U54⟩ := id V44
  have hin55 := inb_of (j := (1 : Int32)) S51 ⟨(by decide : ¬ ((1 : Int32) < (0 : Int32))), (by decide : (1 : Int32) < (2 : Int32))⟩
  refine own_bk (S' := (T30.setTop (mkF m 20 #[rv b, iv (1 : Int32), iv (2 : Int32), rv d_, iv (1 : Int32)] [(.int q1), (.int (1 : Int32)), (.ref d_)]))) (fun t_ kont => X34.caload hx (j := (1 : Int32)) (v := (.int q1)) (by rw [show T30.heap = T30.heap from rfl]; exact A49.1) (State.isArrayOf_alike hZ.alike A49.2.1) A49.2.2 hin55 (Has.at H53 hin55 rfl) (g := (mkF m 19 #[rv b, iv (1 : Int32), iv (2 : Int32), rv d_, iv (1 : Int32)] [(.int (1 : Int32)), (.ref b), (.int (1 : Int32)), (.ref d_)])) rfl rfl (hb hby d17_19) _ kont) ?_
  obtain ⟨_, _, ⟨T59, L60, k61, n62⟩, -, X63, ⟨Lc64, hQ65, l66, y67, z68⟩, st69⟩ := Jvm.LawKit.callS X34 hx (y := (⟨"java/lang/StringUTF16", "putChar", "([BII)V"⟩ : MethodName)) hown (mvT hZ (hw _ (List.mem_of_getElem? (i := 140) rfl))) (mvT hZ (hw _ (List.mem_of_getElem? (i := 141) rfl))) (mvT hZ (hw _ (List.mem_of_getElem? (i := 122) rfl))) (mvT hZ (hw _ (List.mem_of_getElem? (i := 142) rfl))) (by decide) (backOf (W := 0) (rmPC21 l Z a0 hw [] d_ kd_ q1 cz (.int (own_lo q0)) (.int (own_hi q0)) (.int (0 : Int32)) (.int (0 : Int32)) T30.heap n0 Z45 O28 SU V29 da_) hZ (hw _ (List.mem_of_getElem? (i := 142) rfl)) (hw _ (List.mem_of_getElem? (i := 122) rfl)) (by decide) (by decide)) (g := (mkF m 20 #[rv b, iv (1 : Int32), iv (2 : Int32), rv d_, iv (1 : Int32)] [(.int q1), (.int (1 : Int32)), (.ref d_)])) rfl (by rw [hml]; rfl) (argsL := [(.ref d_), (.int (1 : Int32)), (.int q1)]) (rest := []) (lenOf (by decide +kernel : parseMethodDescriptor "([BII)V" = some ⟨[(.array .byte), .int, .int], none⟩) rfl) rfl (by show 2 * 0 + _ ≤ _; exact Nat.le_of_eq rfl) (hb hby d17_20) (fun _ _ => ⟨rfl, rfl, (by decide : 1 + 0 ≤ _), (by decide : 6 + 0 ≤ _)⟩)
  dsimp only [Pt.U, Pt.locs, Pt.cells, Pt.slots] at X63 l66 y67 z68 st69 hQ65
  subst l66 y67 z68
  obtain ⟨rfl, N70, O57, K56, V58⟩ := hQ65
  have N72 := Fr.app N43 N70
  have V73 := (V44.keep K56 (ninS nb_ nin0))
  have Z74 := Nat.le_trans Z45 K56.1
  have O75 := O28.keep K56 (allS da_ all0)
  have K76 := K47.trans K56 (allS (Or.inr dg_) all0)
  refine own_bk (S' := (T59.setTop (mkF m 23 #[rv b, iv (1 : Int32), iv (2 : Int32), rv d_, iv (1 : Int32)] []))) st69 ?_
  refine own_bk (S' := (T59.setTop (mkF m 26 #[rv b, iv (2 : Int32), iv (2 : Int32), rv d_, iv (1 : Int32)] []))) (fun t_ kont => XS.iinc X63.here hx rfl (hb hby d17_23) rfl (l' := #[rv b, iv (2 : Int32), iv (2 : Int32), rv d_, iv (1 : Int32)]) rfl kont) ?_
  refine own_bk (S' := (T59.setTop (mkF m 29 #[rv b, iv (2 : Int32), iv (2 : Int32), rv d_, iv (2 : Int32)] []))) (fun t_ kont => XS.iinc X63.here hx rfl (hb hby d17_26) rfl (l' := #[rv b, iv (2 : Int32), iv (2 : Int32), rv d_, iv (2 : Int32)]) rfl kont) ?_
  refine own_bk (S' := (T59.setTop (mkF m 8 #[rv b, iv (2 : Int32), iv (2 : Int32), rv d_, iv (2 : Int32)] []))) (fun t_ kont => XS.goto X63.here hx rfl (pc0 := 29) (pc' := 8) rfl (hb hby d17_29) (by decide) (by decide) kont) ?_
  refine own_bk (S' := (T59.setTop (mkF m 10 #[rv b, iv (2 : Int32), iv (2 : Int32), rv d_, iv (2 : Int32)] [(.int (2 : Int32))]))) (fun t_ kont => XS.iload X63.here hx rfl (hb hby d17_8) rfl kont) ?_
  refine own_bk (S' := (T59.setTop (mkF m 11 #[rv b, iv (2 : Int32), iv (2 : Int32), rv d_, iv (2 : Int32)] [(.int (2 : Int32)), (.int (2 : Int32))]))) (fun t_ kont => XS.iloadN X63.here hx rfl (hb hby d17_10) rfl kont) ?_
  refine own_bk (S' := (T59.setTop (mkF m 32 #[rv b, iv (2 : Int32), iv (2 : Int32), rv d_, iv (2 : Int32)] []))) (fun t_ kont => XS.icmpYes X63.here hx rfl (pc0 := 11) (pc' := 32) rfl (hb hby d17_11) rfl (flt (by decide : ¬ ((2 : Int32)) < ((2 : Int32)))).2.1 (by decide) (by decide) kont) ?_
  refine own_bk (S' := (T59.setTop (mkF m 33 #[rv b, iv (2 : Int32), iv (2 : Int32), rv d_, iv (2 : Int32)] [(.ref d_)]))) (fun t_ kont => XS.aloadN X63.here hx rfl (hb hby d17_32) rfl rfl kont) ?_
  exact own_retA X63 hx hlk Bd.returns rfl rfl rfl (hb hby d17_33) ⟨N72, O57, K76, _, _, rfl, dg_, V58⟩ (by decide) (by decide)
theorem ef_rmTB3 (m : MethodId) (x0 : Addr) (x1 : Int32) (x2 : Int32) : entryFrame m #[(.ref x0), (.int x1), (.int x2)] 5 = mkF m 0 #[.val (.ref x0), .val (.int x1), .val (.int x2), .unset, .unset] [] := by first | (simp [entryFrame, mkF, argsToLocals, Value.category, maxLocals]; done) | rfl
def Q_rmTB3 (Z : State) (b : Addr) (kb : ClassId) (q0 q1 q2 cz : Int32) (h0 : Heap) (n0 : Nat) (v : Option Value) (h : Heap) (L : List Loc) : Prop := Fr n0 L ∧ Old Z n0 h ∧ Keep h0 h [] ∧ ∃ d kd, v = some (.ref d) ∧ h0.size ≤ d ∧ Arv Z h d kd .byte (6 : Int32) [(.int (own_lo q0)), (.int (own_hi q0)), (.int (own_lo q1)), (.int (own_hi q1)), (.int (own_lo q2)), (.int (own_hi q2))] (.int (0 : Int32))
set_option maxRecDepth 65536 in
set_option maxHeartbeats 40000000 in
theorem rmTB3 (l : Launch) (Z : State) (a0 : Array Value) (hw : ∀ d ∈ tables_1, d.before a0 Z = true) (ws : List Jvm.Cond) (b : Addr) (kb : ClassId) (q0 q1 q2 cz : Int32) (h0 : Heap) (n0 : Nat) (Z0 : n0 ≤ h0.size) (O : Old Z n0 h0) (SU : own_St Z cz) (VB : Arv Z h0 b kb .char (3 : Int32) [(.int q0), (.int q1), (.int q2)] (.int (0 : Int32))) :
    MetFree l (⟨"java/lang/StringUTF16", "toBytes", "([CII)[B"⟩ : MethodName) (head1 (Jvm.Cond.code (⟨"java/lang/StringUTF16", "toBytes", "([CII)[B"⟩ : MethodName) jdk_52_method_14_code 5 (some (.array .byte)) :: ws) ({ frames := 2, cells := 1, slots := 6, locals := 40 } : Room)) (fun as_ U_ => as_ = #[(.ref b), (.int (0 : Int32)), (.int (3 : Int32))] ∧ Z.Warmed39 U_.vm ∧ U_.heap = h0) (fun _ _ _ _ _ => True) (fun _ U_ o_ U2_ => ∃ v_ L_, o_ = .returned v_ ∧ (Q_rmTB3 Z b kb q0 q1 q2 cz h0 n0) v_ U2_.heap L_ ∧ FrameEnd U_ o_ U2_ L_ ({ frames := 2, cells := 1, slots := 6, locals := 40 } : Room).cells ({ frames := 2, cells := 1, slots := 6, locals := 40 } : Room).slots) := by
  refine MetFree.of_bodySF (plainFor_of_name (by first | (simp [plainName, overriddenIn]; done) | decide +kernel : plainName "java/lang/StringUTF16" = true)) hisR ?_
  intro p e s m args below meth c s₁ Bd hml0 hP hK
  obtain ⟨rfl, hZ, hh⟩ := hP
  have hx := Bd.exec
  have hby := Bd.bytes
  have hlk := Bd.notSynchronized
  have hml : c.maxLocals = 5 := hml0
  have hown : s.vm.findClass "java/lang/StringUTF16" = some m.cls := findClass_of_methodNamed Bd.named
  have hnm := (name_of_methodNamed Bd.named Bd.method).1
  have X0 : Stand p l e ({ frames := 2, cells := 1, slots := 6, locals := 40 } : Room) s m #[(.ref b), (.int (0 : Int32)), (.int (3 : Int32))] below meth c s₁ [] 0 0 := Stand.of_body Bd
  have e0 : s₁.heap = h0 := by rw [← hh, Bd.state]; rfl
  have N0 := Fr.nil n0
  show own_Go p e below (own_R s below (Q_rmTB3 Z b kb q0 q1 q2 cz h0 n0) ({ frames := 2, cells := 1, slots := 6, locals := 40 } : Room).cells ({ frames := 2, cells := 1, slots := 6, locals := 40 } : Room).slots) (s₁.setTop (entryFrame m #[(.ref b), (.int (0 : Int32)), (.int (3 : Int32))] 5))
  refine own_bk (S' := (s₁.setTop (mkF m 0 #[rv b, iv (0 : Int32), iv (3 : Int32), .unset, .unset] []))) (fun t_ kont => castTop (ef_rmTB3 m (b) ((0 : Int32)) ((3 : Int32))) kont) ?_
  refine own_bk (S' := (s₁.setTop (mkF m 1 #[rv b, iv (0 : Int32), iv (3 : Int32), .unset, .unset] [(.int (3 : Int32))]))) (fun t_ kont => XS.iloadN X0.here hx rfl (hb hby d17_0) rfl kont) ?_
  obtain ⟨_, _, ⟨T1, L2, k3, n4⟩, -, X5, ⟨Lc6, hQ7, l8, y9, z10⟩, st11⟩ := Jvm.LawKit.callS X0 hx (y := (⟨"java/lang/StringUTF16", "newBytesFor", "(I)[B"⟩ : MethodName)) hown (mvT hZ (hw _ (List.mem_of_getElem? (i := 133) rfl))) (mvT hZ (hw _ (List.mem_of_getElem? (i := 134) rfl))) (mvT hZ (hw _ (List.mem_of_getElem? (i := 122) rfl))) (mvT hZ (hw _ (List.mem_of_getElem? (i := 135) rfl))) (by decide) (backOf (W := 0) (rmNF3 l Z a0 hw [] h0 n0 Z0 O) hZ (hw _ (List.mem_of_getElem? (i := 135) rfl)) (hw _ (List.mem_of_getElem? (i := 122) rfl)) (by decide) (by decide)) (g := (mkF m 1 #[rv b, iv (0 : Int32), iv (3 : Int32), .unset, .unset] [(.int (3 : Int32))])) rfl (by rw [hml]; rfl) (argsL := [(.int (3 : Int32))]) (rest := []) (lenOf (by decide +kernel : parseMethodDescriptor "(I)[B" = some ⟨[.int], some (.array .byte)⟩) rfl) rfl (by show 2 * 0 + _ ≤ _; exact Nat.le_of_eq rfl) (hb hby d17_1) (fun _ _ => ⟨rfl, e0, (by decide : 0 + 1 ≤ _), (by decide : 0 + 6 ≤ _)⟩)
  dsimp only [Pt.U, Pt.locs, Pt.cells, Pt.slots] at X5 l8 y9 z10 st11 hQ7
  subst l8 y9 z10
  obtain ⟨N12, O_, K_, d_, kd_, rfl, dg_, Vd_⟩ := hQ7
  have N14 := Fr.app N0 N12
  have V15 := (VB.keep K_ nin0)
  have Z16 := Nat.le_trans Z0 K_.1
  have O17 := O.keep K_ all0
  have K18 := (Keep.refl h0 []).trans K_ all0
  have nb_ : b ≠ d_ := Nat.ne_of_lt (Nat.lt_of_lt_of_le VB.lt dg_)
  have da_ : n0 ≤ d_ := Nat.le_trans Z0 dg_
  refine own_bk (S' := (T1.setTop (mkF m 4 #[rv b, iv (0 : Int32), iv (3 : Int32), .unset, .unset] [(.ref d_)]))) st11 ?_
  refine own_bk (S' := (T1.setTop (mkF m 5 #[rv b, iv (0 : Int32), iv (3 : Int32), rv d_, .unset] []))) (fun t_ kont => XS.astoreN X5.here hx rfl (hb hby d17_4) rfl rfl (l' := #[rv b, iv (0 : Int32), iv (3 : Int32), rv d_, .unset]) rfl kont) ?_
  refine own_bk (S' := (T1.setTop (mkF m 6 #[rv b, iv (0 : Int32), iv (3 : Int32), rv d_, .unset] [(.int (0 : Int32))]))) (fun t_ kont => XS.iconst X5.here hx rfl (hb hby d17_5) kont) ?_
  refine own_bk (S' := (T1.setTop (mkF m 8 #[rv b, iv (0 : Int32), iv (3 : Int32), rv d_, iv (0 : Int32)] []))) (fun t_ kont => XS.istore X5.here hx rfl (hb hby d17_6) rfl (l' := #[rv b, iv (0 : Int32), iv (3 : Int32), rv d_, iv (0 : Int32)]) rfl kont) ?_
  refine own_bk (S' := (T1.setTop (mkF m 10 #[rv b, iv (0 : Int32), iv (3 : Int32), rv d_, iv (0 : Int32)] [(.int (0 : Int32))]))) (fun t_ kont => XS.iload X5.here hx rfl (hb hby d17_8) rfl kont) ?_
  refine own_bk (S' := (T1.setTop (mkF m 11 #[rv b, iv (0 : Int32), iv (3 : Int32), rv d_, iv (0 : Int32)] [(.int (3 : Int32)), (.int (0 : Int32))]))) (fun t_ kont => XS.iloadN X5.here hx rfl (hb hby d17_10) rfl kont) ?_
  refine own_bk (S' := (T1.setTop (mkF m 14 #[rv b, iv (0 : Int32), iv (3 : Int32), rv d_, iv (0 : Int32)] []))) (fun t_ kont => XS.icmpNo X5.here hx rfl (hb hby d17_11) rfl (tlt (by decide : ((0 : Int32)) < ((3 : Int32)))).2.1 kont) ?_
  refine own_bk (S' := (T1.setTop (mkF m 15 #[rv b, iv (0 : Int32), iv (3 : Int32), rv d_, iv (0 : Int32)] [(.ref d_)]))) (fun t_ kont => XS.aloadN X5.here hx rfl (hb hby d17_14) rfl rfl kont) ?_
  refine own_bk (S' := (T1.setTop (mkF m 17 #[rv b, iv (0 : Int32), iv (3 : Int32), rv d_, iv (0 : Int32)] [(.int (0 : Int32)), (.ref d_)]))) (fun t_ kont => XS.iload X5.here hx rfl (hb hby d17_15) rfl kont) ?_
  refine own_bk (S' := (T1.setTop (mkF m 18 #[rv b, iv (0 : Int32), iv (3 : Int32), rv d_, iv (0 : Int32)] [(.ref b), (.int (0 : Int32)), (.ref d_)]))) (fun t_ kont => XS.aloadN X5.here hx rfl (hb hby d17_17) rfl rfl kont) ?_
  refine own_bk (S' := (T1.setTop (mkF m 19 #[rv b, iv (0 : Int32), iv (3 : Int32), rv d_, iv (0 : Int32)] [(.int (0 : Int32)), (.ref b), (.int (0 : Int32)), (.ref d_)]))) (fun t_ kont => XS.iloadN X5.here hx rfl (hb hby d17_18) rfl kont) ?_
  obtain ⟨c19, A20, q21, S22, M23, H24, U25⟩ := id V15
  have hin26 := inb_of (j := (0 : Int32)) S22 ⟨(by decide : ¬ ((0 : Int32) < (0 : Int32))), (by decide : (0 : Int32) < (3 : Int32))⟩
  refine own_bk (S' := (T1.setTop (mkF m 20 #[rv b, iv (0 : Int32), iv (3 : Int32), rv d_, iv (0 : Int32)] [(.int q0), (.int (0 : Int32)), (.ref d_)]))) (fun t_ kont => X5.caload hx (j := (0 : Int32)) (v := (.int q0)) (by rw [show T1.heap = T1.heap from rfl]; exact A20.1) (State.isArrayOf_alike hZ.alike A20.2.1) A20.2.2 hin26 (Has.at H24 hin26 rfl) (g := (mkF m 19 #[rv b, iv (0 : Int32), iv (3 : Int32), rv d_, iv (0 : Int32)] [(.int (0 : Int32)), (.ref b), (.int (0 : Int32)), (.ref d_)])) rfl rfl (hb hby d17_19) _ kont) ?_
  obtain ⟨_, _, ⟨T30, L31, k32, n33⟩, -, X34, ⟨Lc35, hQ36, l37, y38, z39⟩, st40⟩ := Jvm.LawKit.callS X5 hx (y := (⟨"java/lang/StringUTF16", "putChar", "([BII)V"⟩ : MethodName)) hown (mvT hZ (hw _ (List.mem_of_getElem? (i := 140) rfl))) (mvT hZ (hw _ (List.mem_of_getElem? (i := 141) rfl))) (mvT hZ (hw _ (List.mem_of_getElem? (i := 122) rfl))) (mvT hZ (hw _ (List.mem_of_getElem? (i := 142) rfl))) (by decide) (backOf (W := 0) (rmPC30 l Z a0 hw [] d_ kd_ q0 cz (.int (0 : Int32)) (.int (0 : Int32)) (.int (0 : Int32)) (.int (0 : Int32)) (.int (0 : Int32)) (.int (0 : Int32)) T1.heap n0 Z16 O_ SU Vd_ da_) hZ (hw _ (List.mem_of_getElem? (i := 142) rfl)) (hw _ (List.mem_of_getElem? (i := 122) rfl)) (by decide) (by decide)) (g := (mkF m 20 #[rv b, iv (0 : Int32), iv (3 : Int32), rv d_, iv (0 : Int32)] [(.int q0), (.int (0 : Int32)), (.ref d_)])) rfl (by rw [hml]; rfl) (argsL := [(.ref d_), (.int (0 : Int32)), (.int q0)]) (rest := []) (lenOf (by decide +kernel : parseMethodDescriptor "([BII)V" = some ⟨[(.array .byte), .int, .int], none⟩) rfl) rfl (by show 2 * 0 + _ ≤ _; exact Nat.le_of_eq rfl) (hb hby d17_20) (fun _ _ => ⟨rfl, rfl, (by decide : 1 + 0 ≤ _), (by decide : 6 + 0 ≤ _)⟩)
  dsimp only [Pt.U, Pt.locs, Pt.cells, Pt.slots] at X34 l37 y38 z39 st40 hQ36
  subst l37 y38 z39
  obtain ⟨rfl, N41, O28, K27, V29⟩ := hQ36
  have N43 := Fr.app N14 N41
  have V44 := (V15.keep K27 (ninS nb_ nin0))
  have Z45 := Nat.le_trans Z16 K27.1
  have O46 := O_.keep K27 (allS da_ all0)
  have K47 := K18.trans K27 (allS (Or.inr dg_) all0)
  refine own_bk (S' := (T30.setTop (mkF m 23 #[rv b, iv (0 : Int32), iv (3 : Int32), rv d_, iv (0 : Int32)] []))) st40 ?_
  refine own_bk (S' := (T30.setTop (mkF m 26 #[rv b, iv (1 : Int32), iv (3 : Int32), rv d_, iv (0 : Int32)] []))) (fun t_ kont => XS.iinc X34.here hx rfl (hb hby d17_23) rfl (l' := #[rv b, iv (1 : Int32), iv (3 : Int32), rv d_, iv (0 : Int32)]) rfl kont) ?_
  refine own_bk (S' := (T30.setTop (mkF m 29 #[rv b, iv (1 : Int32), iv (3 : Int32), rv d_, iv (1 : Int32)] []))) (fun t_ kont => XS.iinc X34.here hx rfl (hb hby d17_26) rfl (l' := #[rv b, iv (1 : Int32), iv (3 : Int32), rv d_, iv (1 : Int32)]) rfl kont) ?_
  refine own_bk (S' := (T30.setTop (mkF m 8 #[rv b, iv (1 : Int32), iv (3 : Int32), rv d_, iv (1 : Int32)] []))) (fun t_ kont => XS.goto X34.here hx rfl (pc0 := 29) (pc' := 8) rfl (hb hby d17_29) (by decide) (by decide) kont) ?_
  refine own_bk (S' := (T30.setTop (mkF m 10 #[rv b, iv (1 : Int32), iv (3 : Int32), rv d_, iv (1 : Int32)] [(.int (1 : Int32))]))) (fun t_ kont => XS.iload X34.here hx rfl (hb hby d17_8) rfl kont) ?_
  refine own_bk (S' := (T30.setTop (mkF m 11 #[rv b, iv (1 : Int32), iv (3 : Int32), rv d_, iv (1 : Int32)] [(.int (3 : Int32)), (.int (1 : Int32))]))) (fun t_ kont => XS.iloadN X34.here hx rfl (hb hby d17_10) rfl kont) ?_
  refine own_bk (S' := (T30.setTop (mkF m 14 #[rv b, iv (1 : Int32), iv (3 : Int32), rv d_, iv (1 : Int32)] []))) (fun t_ kont => XS.icmpNo X34.here hx rfl (hb hby d17_11) rfl (tlt (by decide : ((1 : Int32)) < ((3 : Int32)))).2.1 kont) ?_
  refine own_bk (S' := (T30.setTop (mkF m 15 #[rv b, iv (1 : Int32), iv (3 : Int32), rv d_, iv (1 : Int32)] [(.ref d_)]))) (fun t_ kont => XS.aloadN X34.here hx rfl (hb hby d17_14) rfl rfl kont) ?_
  refine own_bk (S' := (T30.setTop (mkF m 17 #[rv b, iv (1 : Int32), iv (3 : Int32), rv d_, iv (1 : Int32)] [(.int (1 : Int32)), (.ref d_)]))) (fun t_ kont => XS.iload X34.here hx rfl (hb hby d17_15) rfl kont) ?_
  refine own_bk (S' := (T30.setTop (mkF m 18 #[rv b, iv (1 : Int32), iv (3 : Int32), rv d_, iv (1 : Int32)] [(.ref b), (.int (1 : Int32)), (.ref d_)]))) (fun t_ kont => XS.aloadN X34.here hx rfl (hb hby d17_17) rfl rfl kont) ?_
  refine own_bk (S' := (T30.setTop (mkF m 19 #[rv b, iv (1 : Int32), iv (3 : Int32), rv d_, iv (1 : Int32)] [(.int (1 : Int32)), (.ref b), (.int (1 : Int32)), (.ref d_)]))) (fun t_ kont => XS.iloadN X34.here hx rfl (hb hby d17_18) rfl kont) ?_
  obtain ⟨c48, A49, q50, S51, M52, H53, U54⟩ := id V44
  have hin55 := inb_of (j := (1 : Int32)) S51 ⟨(by decide : ¬ ((1 : Int32) < (0 : Int32))), (by decide : (1 : Int32) < (3 : Int32))⟩
  refine own_bk (S' := (T30.setTop (mkF m 20 #[rv b, iv (1 : Int32), iv (3 : Int32), rv d_, iv (1 : Int32)] [(.int q1), (.int (1 : Int32)), (.ref d_)]))) (fun t_ kont => X34.caload hx (j := (1 : Int32)) (v := (.int q1)) (by rw [show T30.heap = T30.heap from rfl]; exact A49.1) (State.isArrayOf_alike hZ.alike A49.2.1) A49.2.2 hin55 (Has.at H53 hin55 rfl) (g := (mkF m 19 #[rv b, iv (1 : Int32), iv (3 : Int32), rv d_, iv (1 : Int32)] [(.int (1 : Int32)), (.ref b), (.int (1 : Int32)), (.ref d_)])) rfl rfl (hb hby d17_19) _ kont) ?_
  obtain ⟨_, _, ⟨T59, L60, k61, n62⟩, -, X63, ⟨Lc64, hQ65, l66, y67, z68⟩, st69⟩ := Jvm.LawKit.callS X34 hx (y := (⟨"java/lang/StringUTF16", "putChar", "([BII)V"⟩ : MethodName)) hown (mvT hZ (hw _ (List.mem_of_getElem? (i := 140) rfl))) (mvT hZ (hw _ (List.mem_of_getElem? (i := 141) rfl))) (mvT hZ (hw _ (List.mem_of_getElem? (i := 122) rfl))) (mvT hZ (hw _ (List.mem_of_getElem? (i := 142) rfl))) (by decide) (backOf (W := 0) (rmPC31 l Z a0 hw [] d_ kd_ q1 cz (.int (own_lo q0)) (.int (own_hi q0)) (.int (0 : Int32)) (.int (0 : Int32)) (.int (0 : Int32)) (.int (0 : Int32)) T30.heap n0 Z45 O28 SU V29 da_) hZ (hw _ (List.mem_of_getElem? (i := 142) rfl)) (hw _ (List.mem_of_getElem? (i := 122) rfl)) (by decide) (by decide)) (g := (mkF m 20 #[rv b, iv (1 : Int32), iv (3 : Int32), rv d_, iv (1 : Int32)] [(.int q1), (.int (1 : Int32)), (.ref d_)])) rfl (by rw [hml]; rfl) (argsL := [(.ref d_), (.int (1 : Int32)), (.int q1)]) (rest := []) (lenOf (by decide +kernel : parseMethodDescriptor "([BII)V" = some ⟨[(.array .byte), .int, .int], none⟩) rfl) rfl (by show 2 * 0 + _ ≤ _; exact Nat.le_of_eq rfl) (hb hby d17_20) (fun _ _ => ⟨rfl, rfl, (by decide : 1 + 0 ≤ _), (by decide : 6 + 0 ≤ _)⟩)
  dsimp only [Pt.U, Pt.locs, Pt.cells, Pt.slots] at X63 l66 y67 z68 st69 hQ65
  subst l66 y67 z68
  obtain ⟨rfl, N70, O57, K56, V58⟩ := hQ65
  have N72 := Fr.app N43 N70
  have V73 := (V44.keep K56 (ninS nb_ nin0))
  have Z74 := Nat.le_trans Z45 K56.1
  have O75 := O28.keep K56 (allS da_ all0)
  have K76 := K47.trans K56 (allS (Or.inr dg_) all0)
  refine own_bk (S' := (T59.setTop (mkF m 23 #[rv b, iv (1 : Int32), iv (3 : Int32), rv d_, iv (1 : Int32)] []))) st69 ?_
  refine own_bk (S' := (T59.setTop (mkF m 26 #[rv b, iv (2 : Int32), iv (3 : Int32), rv d_, iv (1 : Int32)] []))) (fun t_ kont => XS.iinc X63.here hx rfl (hb hby d17_23) rfl (l' := #[rv b, iv (2 : Int32), iv (3 : Int32), rv d_, iv (1 : Int32)]) rfl kont) ?_
  refine own_bk (S' := (T59.setTop (mkF m 29 #[rv b, iv (2 : Int32), iv (3 : Int32), rv d_, iv (2 : Int32)] []))) (fun t_ kont => XS.iinc X63.here hx rfl (hb hby d17_26) rfl (l' := #[rv b, iv (2 : Int32), iv (3 : Int32), rv d_, iv (2 : Int32)]) rfl kont) ?_
  refine own_bk (S' := (T59.setTop (mkF m 8 #[rv b, iv (2 : Int32), iv (3 : Int32), rv d_, iv (2 : Int32)] []))) (fun t_ kont => XS.goto X63.here hx rfl (pc0 := 29) (pc' := 8) rfl (hb hby d17_29) (by decide) (by decide) kont) ?_
  refine own_bk (S' := (T59.setTop (mkF m 10 #[rv b, iv (2 : Int32), iv (3 : Int32), rv d_, iv (2 : Int32)] [(.int (2 : Int32))]))) (fun t_ kont => XS.iload X63.here hx rfl (hb hby d17_8) rfl kont) ?_
  refine own_bk (S' := (T59.setTop (mkF m 11 #[rv b, iv (2 : Int32), iv (3 : Int32), rv d_, iv (2 : Int32)] [(.int (3 : Int32)), (.int (2 : Int32))]))) (fun t_ kont => XS.iloadN X63.here hx rfl (hb hby d17_10) rfl kont) ?_
  refine own_bk (S' := (T59.setTop (mkF m 14 #[rv b, iv (2 : Int32), iv (3 : Int32), rv d_, iv (2 : Int32)] []))) (fun t_ kont => XS.icmpNo X63.here hx rfl (hb hby d17_11) rfl (tlt (by decide : ((2 : Int32)) < ((3 : Int32)))).2.1 kont) ?_
  refine own_bk (S' := (T59.setTop (mkF m 15 #[rv b, iv (2 : Int32), iv (3 : Int32), rv d_, iv (2 : Int32)] [(.ref d_)]))) (fun t_ kont => XS.aloadN X63.here hx rfl (hb hby d17_14) rfl rfl kont) ?_
  refine own_bk (S' := (T59.setTop (mkF m 17 #[rv b, iv (2 : Int32), iv (3 : Int32), rv d_, iv (2 : Int32)] [(.int (2 : Int32)), (.ref d_)]))) (fun t_ kont => XS.iload X63.here hx rfl (hb hby d17_15) rfl kont) ?_
  refine own_bk (S' := (T59.setTop (mkF m 18 #[rv b, iv (2 : Int32), iv (3 : Int32), rv d_, iv (2 : Int32)] [(.ref b), (.int (2 : Int32)), (.ref d_)]))) (fun t_ kont => XS.aloadN X63.here hx rfl (hb hby d17_17) rfl rfl kont) ?_
  refine own_bk (S' := (T59.setTop (mkF m 19 #[rv b, iv (2 : Int32), iv (3 : Int32), rv d_, iv (2 : Int32)] [(.int (2 : Int32)), (.ref b), (.int (2 : Int32)), (.ref d_)]))) (fun t_ kont => XS.iloadN X63.here hx rfl (hb hby d17_18) rfl kont) ?_
  obtain ⟨c77, A78, q79, S80, M81, H82, U83⟩ := id V73
  have hin84 := inb_of (j := (2 : Int32)) S80 ⟨(by decide : ¬ ((2 : Int32) < (0 : Int32))), (by decide : (2 : Int32) < (3 : Int32))⟩
  refine own_bk (S' := (T59.setTop (mkF m 20 #[rv b, iv (2 : Int32), iv (3 : Int32), rv d_, iv (2 : Int32)] [(.int q2), (.int (2 : Int32)), (.ref d_)]))) (fun t_ kont => X63.caload hx (j := (2 : Int32)) (v := (.int q2)) (by rw [show T59.heap = T59.heap from rfl]; exact A78.1) (State.isArrayOf_alike hZ.alike A78.2.1) A78.2.2 hin84 (Has.at H82 hin84 rfl) (g := (mkF m 19 #[rv b, iv (2 : Int32), iv (3 : Int32), rv d_, iv (2 : Int32)] [(.int (2 : Int32)), (.ref b), (.int (2 : Int32)), (.ref d_)])) rfl rfl (hb hby d17_19) _ kont) ?_
  obtain ⟨_, _, ⟨T88, L89, k90, n91⟩, -, X92, ⟨Lc93, hQ94, l95, y96, z97⟩, st98⟩ := Jvm.LawKit.callS X63 hx (y := (⟨"java/lang/StringUTF16", "putChar", "([BII)V"⟩ : MethodName)) hown (mvT hZ (hw _ (List.mem_of_getElem? (i := 140) rfl))) (mvT hZ (hw _ (List.mem_of_getElem? (i := 141) rfl))) (mvT hZ (hw _ (List.mem_of_getElem? (i := 122) rfl))) (mvT hZ (hw _ (List.mem_of_getElem? (i := 142) rfl))) (by decide) (backOf (W := 0) (rmPC32 l Z a0 hw [] d_ kd_ q2 cz (.int (own_lo q0)) (.int (own_hi q0)) (.int (own_lo q1)) (.int (own_hi q1)) (.int (0 : Int32)) (.int (0 : Int32)) T59.heap n0 Z74 O57 SU V58 da_) hZ (hw _ (List.mem_of_getElem? (i := 142) rfl)) (hw _ (List.mem_of_getElem? (i := 122) rfl)) (by decide) (by decide)) (g := (mkF m 20 #[rv b, iv (2 : Int32), iv (3 : Int32), rv d_, iv (2 : Int32)] [(.int q2), (.int (2 : Int32)), (.ref d_)])) rfl (by rw [hml]; rfl) (argsL := [(.ref d_), (.int (2 : Int32)), (.int q2)]) (rest := []) (lenOf (by decide +kernel : parseMethodDescriptor "([BII)V" = some ⟨[(.array .byte), .int, .int], none⟩) rfl) rfl (by show 2 * 0 + _ ≤ _; exact Nat.le_of_eq rfl) (hb hby d17_20) (fun _ _ => ⟨rfl, rfl, (by decide : 1 + 0 ≤ _), (by decide : 6 + 0 ≤ _)⟩)
  dsimp only [Pt.U, Pt.locs, Pt.cells, Pt.slots] at X92 l95 y96 z97 st98 hQ94
  subst l95 y96 z97
  obtain ⟨rfl, N99, O86, K85, V87⟩ := hQ94
  have N101 := Fr.app N72 N99
  have V102 := (V73.keep K85 (ninS nb_ nin0))
  have Z103 := Nat.le_trans Z74 K85.1
  have O104 := O57.keep K85 (allS da_ all0)
  have K105 := K76.trans K85 (allS (Or.inr dg_) all0)
  refine own_bk (S' := (T88.setTop (mkF m 23 #[rv b, iv (2 : Int32), iv (3 : Int32), rv d_, iv (2 : Int32)] []))) st98 ?_
  refine own_bk (S' := (T88.setTop (mkF m 26 #[rv b, iv (3 : Int32), iv (3 : Int32), rv d_, iv (2 : Int32)] []))) (fun t_ kont => XS.iinc X92.here hx rfl (hb hby d17_23) rfl (l' := #[rv b, iv (3 : Int32), iv (3 : Int32), rv d_, iv (2 : Int32)]) rfl kont) ?_
  refine own_bk (S' := (T88.setTop (mkF m 29 #[rv b, iv (3 : Int32), iv (3 : Int32), rv d_, iv (3 : Int32)] []))) (fun t_ kont => XS.iinc X92.here hx rfl (hb hby d17_26) rfl (l' := #[rv b, iv (3 : Int32), iv (3 : Int32), rv d_, iv (3 : Int32)]) rfl kont) ?_
  refine own_bk (S' := (T88.setTop (mkF m 8 #[rv b, iv (3 : Int32), iv (3 : Int32), rv d_, iv (3 : Int32)] []))) (fun t_ kont => XS.goto X92.here hx rfl (pc0 := 29) (pc' := 8) rfl (hb hby d17_29) (by decide) (by decide) kont) ?_
  refine own_bk (S' := (T88.setTop (mkF m 10 #[rv b, iv (3 : Int32), iv (3 : Int32), rv d_, iv (3 : Int32)] [(.int (3 : Int32))]))) (fun t_ kont => XS.iload X92.here hx rfl (hb hby d17_8) rfl kont) ?_
  refine own_bk (S' := (T88.setTop (mkF m 11 #[rv b, iv (3 : Int32), iv (3 : Int32), rv d_, iv (3 : Int32)] [(.int (3 : Int32)), (.int (3 : Int32))]))) (fun t_ kont => XS.iloadN X92.here hx rfl (hb hby d17_10) rfl kont) ?_
  refine own_bk (S' := (T88.setTop (mkF m 32 #[rv b, iv (3 : Int32), iv (3 : Int32), rv d_, iv (3 : Int32)] []))) (fun t_ kont => XS.icmpYes X92.here hx rfl (pc0 := 11) (pc' := 32) rfl (hb hby d17_11) rfl (flt (by decide : ¬ ((3 : Int32)) < ((3 : Int32)))).2.1 (by decide) (by decide) kont) ?_
  refine own_bk (S' := (T88.setTop (mkF m 33 #[rv b, iv (3 : Int32), iv (3 : Int32), rv d_, iv (3 : Int32)] [(.ref d_)]))) (fun t_ kont => XS.aloadN X92.here hx rfl (hb hby d17_32) rfl rfl kont) ?_
  exact own_retA X92 hx hlk Bd.returns rfl rfl rfl (hb hby d17_33) ⟨N101, O86, K105, _, _, rfl, dg_, V87⟩ (by decide) (by decide)
theorem d15_0 : decode jdk_52_method_21_code 0 = .ok (.iconst 0, 1) := by decide +kernel
theorem d15_1 : decode jdk_52_method_21_code 1 = .ok (.istore 5, 2) := by decide +kernel
theorem d15_3 : decode jdk_52_method_21_code 3 = .ok (.iload 5, 2) := by decide +kernel
theorem d15_5 : decode jdk_52_method_21_code 5 = .ok (.iload 4, 2) := by decide +kernel
theorem d15_7 : decode jdk_52_method_21_code 7 = .ok (.if_icmp .ge 37, 3) := by decide +kernel
theorem d15_10 : decode jdk_52_method_21_code 10 = .ok (.aload_n 0, 1) := by decide +kernel
theorem d15_11 : decode jdk_52_method_21_code 11 = .ok (.iload_n 1, 1) := by decide +kernel
theorem d15_12 : decode jdk_52_method_21_code 12 = .ok (.caload, 1) := by decide +kernel
theorem d15_13 : decode jdk_52_method_21_code 13 = .ok (.istore 6, 2) := by decide +kernel
theorem d15_15 : decode jdk_52_method_21_code 15 = .ok (.iload 6, 2) := by decide +kernel
theorem d15_17 : decode jdk_52_method_21_code 17 = .ok (.sipush 255, 3) := by decide +kernel
theorem d15_20 : decode jdk_52_method_21_code 20 = .ok (.if_icmp .le 6, 3) := by decide +kernel
theorem d15_23 : decode jdk_52_method_21_code 23 = .ok (.iload 5, 2) := by decide +kernel
theorem d15_25 : decode jdk_52_method_21_code 25 = .ok (.ireturn, 1) := by decide +kernel
theorem d15_26 : decode jdk_52_method_21_code 26 = .ok (.aload_n 2, 1) := by decide +kernel
theorem d15_27 : decode jdk_52_method_21_code 27 = .ok (.iload_n 3, 1) := by decide +kernel
theorem d15_28 : decode jdk_52_method_21_code 28 = .ok (.iload 6, 2) := by decide +kernel
theorem d15_30 : decode jdk_52_method_21_code 30 = .ok (.i2b, 1) := by decide +kernel
theorem d15_31 : decode jdk_52_method_21_code 31 = .ok (.bastore, 1) := by decide +kernel
theorem d15_32 : decode jdk_52_method_21_code 32 = .ok (.iinc 1 1, 3) := by decide +kernel
theorem d15_35 : decode jdk_52_method_21_code 35 = .ok (.iinc 3 1, 3) := by decide +kernel
theorem d15_38 : decode jdk_52_method_21_code 38 = .ok (.iinc 5 1, 3) := by decide +kernel
theorem d15_41 : decode jdk_52_method_21_code 41 = .ok (.goto (-38), 3) := by decide +kernel
theorem d15_44 : decode jdk_52_method_21_code 44 = .ok (.iload 4, 2) := by decide +kernel
theorem d15_46 : decode jdk_52_method_21_code 46 = .ok (.ireturn, 1) := by decide +kernel
theorem ef_rmC520 (m : MethodId) (x0 : Addr) (x1 : Int32) (x2 : Addr) (x3 : Int32) (x4 : Int32) : entryFrame m #[(.ref x0), (.int x1), (.ref x2), (.int x3), (.int x4)] 7 = mkF m 0 #[.val (.ref x0), .val (.int x1), .val (.ref x2), .val (.int x3), .val (.int x4), .unset, .unset] [] := by first | (simp [entryFrame, mkF, argsToLocals, Value.category, maxLocals]; done) | rfl
def Q_rmC520 (Z : State) (b d : Addr) (kb kd : ClassId) (q0 q1 : Int32) (h0 : Heap) (n0 : Nat) (v : Option Value) (h : Heap) (L : List Loc) : Prop := v = some (.int 0) ∧ Fr n0 L ∧ Old Z n0 h ∧ Keep h0 h [d] ∧ ∃ vs, Arv Z h d kd .byte (2 : Int32) vs (.int (0 : Int32))
set_option maxRecDepth 65536 in
set_option maxHeartbeats 40000000 in
theorem rmC520 (l : Launch) (Z : State) (a0 : Array Value) (hw : ∀ d ∈ tables_1, d.before a0 Z = true) (ws : List Jvm.Cond) (b d : Addr) (kb kd : ClassId) (q0 q1 : Int32) (h0 : Heap) (n0 : Nat) (Z0 : n0 ≤ h0.size) (O : Old Z n0 h0) (VB : Arv Z h0 b kb .char (2 : Int32) [(.int q0), (.int q1)] (.int (0 : Int32))) (VD : Arv Z h0 d kd .byte (2 : Int32) [(.int (0 : Int32)), (.int (0 : Int32))] (.int (0 : Int32))) (nbd : b ≠ d) (ag : n0 ≤ d)  (gq0 : (255 : Int32) < q0) :
    MetFree l (⟨"java/lang/StringUTF16", "compress", "([CI[BII)I"⟩ : MethodName) (head1 (Jvm.Cond.code (⟨"java/lang/StringUTF16", "compress", "([CI[BII)I"⟩ : MethodName) jdk_52_method_21_code 7 (some .int) :: ws) ({ frames := 0, cells := 0, slots := 0, locals := 0 } : Room)) (fun as_ U_ => as_ = #[(.ref b), (.int (0 : Int32)), (.ref d), (.int (0 : Int32)), (.int (2 : Int32))] ∧ Z.Warmed39 U_.vm ∧ U_.heap = h0) (fun _ _ _ _ _ => True) (fun _ U_ o_ U2_ => ∃ v_ L_, o_ = .returned v_ ∧ (Q_rmC520 Z b d kb kd q0 q1 h0 n0) v_ U2_.heap L_ ∧ FrameEnd U_ o_ U2_ L_ ({ frames := 0, cells := 0, slots := 0, locals := 0 } : Room).cells ({ frames := 0, cells := 0, slots := 0, locals := 0 } : Room).slots) := by
  refine MetFree.of_bodySF (plainFor_of_name (by first | (simp [plainName, overriddenIn]; done) | decide +kernel : plainName "java/lang/StringUTF16" = true)) hisR ?_
  intro p e s m args below meth c s₁ Bd hml0 hP hK
  obtain ⟨rfl, hZ, hh⟩ := hP
  have hx := Bd.exec
  have hby := Bd.bytes
  have hlk := Bd.notSynchronized
  have hml : c.maxLocals = 7 := hml0
  have hown : s.vm.findClass "java/lang/StringUTF16" = some m.cls := findClass_of_methodNamed Bd.named
  have hnm := (name_of_methodNamed Bd.named Bd.method).1
  have X0 : Stand p l e ({ frames := 0, cells := 0, slots := 0, locals := 0 } : Room) s m #[(.ref b), (.int (0 : Int32)), (.ref d), (.int (0 : Int32)), (.int (2 : Int32))] below meth c s₁ [] 0 0 := Stand.of_body Bd
  have e0 : s₁.heap = h0 := by rw [← hh, Bd.state]; rfl
  have N0 := Fr.nil n0
  show own_Go p e below (own_R s below (Q_rmC520 Z b d kb kd q0 q1 h0 n0) ({ frames := 0, cells := 0, slots := 0, locals := 0 } : Room).cells ({ frames := 0, cells := 0, slots := 0, locals := 0 } : Room).slots) (s₁.setTop (entryFrame m #[(.ref b), (.int (0 : Int32)), (.ref d), (.int (0 : Int32)), (.int (2 : Int32))] 7))
  refine own_bk (S' := (s₁.setTop (mkF m 0 #[rv b, iv (0 : Int32), rv d, iv (0 : Int32), iv (2 : Int32), .unset, .unset] []))) (fun t_ kont => castTop (ef_rmC520 m (b) ((0 : Int32)) (d) ((0 : Int32)) ((2 : Int32))) kont) ?_
  refine own_bk (S' := (s₁.setTop (mkF m 1 #[rv b, iv (0 : Int32), rv d, iv (0 : Int32), iv (2 : Int32), .unset, .unset] [(.int (0 : Int32))]))) (fun t_ kont => XS.iconst X0.here hx rfl (hb hby d15_0) kont) ?_
  refine own_bk (S' := (s₁.setTop (mkF m 3 #[rv b, iv (0 : Int32), rv d, iv (0 : Int32), iv (2 : Int32), iv (0 : Int32), .unset] []))) (fun t_ kont => XS.istore X0.here hx rfl (hb hby d15_1) rfl (l' := #[rv b, iv (0 : Int32), rv d, iv (0 : Int32), iv (2 : Int32), iv (0 : Int32), .unset]) rfl kont) ?_
  refine own_bk (S' := (s₁.setTop (mkF m 5 #[rv b, iv (0 : Int32), rv d, iv (0 : Int32), iv (2 : Int32), iv (0 : Int32), .unset] [(.int (0 : Int32))]))) (fun t_ kont => XS.iload X0.here hx rfl (hb hby d15_3) rfl kont) ?_
  refine own_bk (S' := (s₁.setTop (mkF m 7 #[rv b, iv (0 : Int32), rv d, iv (0 : Int32), iv (2 : Int32), iv (0 : Int32), .unset] [(.int (2 : Int32)), (.int (0 : Int32))]))) (fun t_ kont => XS.iload X0.here hx rfl (hb hby d15_5) rfl kont) ?_
  refine own_bk (S' := (s₁.setTop (mkF m 10 #[rv b, iv (0 : Int32), rv d, iv (0 : Int32), iv (2 : Int32), iv (0 : Int32), .unset] []))) (fun t_ kont => XS.icmpNo X0.here hx rfl (hb hby d15_7) rfl (tlt (by decide : ((0 : Int32)) < ((2 : Int32)))).2.1 kont) ?_
  refine own_bk (S' := (s₁.setTop (mkF m 11 #[rv b, iv (0 : Int32), rv d, iv (0 : Int32), iv (2 : Int32), iv (0 : Int32), .unset] [(.ref b)]))) (fun t_ kont => XS.aloadN X0.here hx rfl (hb hby d15_10) rfl rfl kont) ?_
  refine own_bk (S' := (s₁.setTop (mkF m 12 #[rv b, iv (0 : Int32), rv d, iv (0 : Int32), iv (2 : Int32), iv (0 : Int32), .unset] [(.int (0 : Int32)), (.ref b)]))) (fun t_ kont => XS.iloadN X0.here hx rfl (hb hby d15_11) rfl kont) ?_
  obtain ⟨c1, A2, q3, S4, M5, H6, U7⟩ := id VB
  have hin8 := inb_of (j := (0 : Int32)) S4 ⟨(by decide : ¬ ((0 : Int32) < (0 : Int32))), (by decide : (0 : Int32) < (2 : Int32))⟩
  refine own_bk (S' := (s₁.setTop (mkF m 13 #[rv b, iv (0 : Int32), rv d, iv (0 : Int32), iv (2 : Int32), iv (0 : Int32), .unset] [(.int q0)]))) (fun t_ kont => X0.caload hx (j := (0 : Int32)) (v := (.int q0)) (by rw [show s₁.heap = h0 from e0]; exact A2.1) (State.isArrayOf_alike hZ.alike A2.2.1) A2.2.2 hin8 (Has.at H6 hin8 rfl) (g := (mkF m 12 #[rv b, iv (0 : Int32), rv d, iv (0 : Int32), iv (2 : Int32), iv (0 : Int32), .unset] [(.int (0 : Int32)), (.ref b)])) rfl rfl (hb hby d15_12) _ kont) ?_
  refine own_bk (S' := (s₁.setTop (mkF m 15 #[rv b, iv (0 : Int32), rv d, iv (0 : Int32), iv (2 : Int32), iv (0 : Int32), iv q0] []))) (fun t_ kont => XS.istore X0.here hx rfl (hb hby d15_13) rfl (l' := #[rv b, iv (0 : Int32), rv d, iv (0 : Int32), iv (2 : Int32), iv (0 : Int32), iv q0]) rfl kont) ?_
  refine own_bk (S' := (s₁.setTop (mkF m 17 #[rv b, iv (0 : Int32), rv d, iv (0 : Int32), iv (2 : Int32), iv (0 : Int32), iv q0] [(.int q0)]))) (fun t_ kont => XS.iload X0.here hx rfl (hb hby d15_15) rfl kont) ?_
  refine own_bk (S' := (s₁.setTop (mkF m 20 #[rv b, iv (0 : Int32), rv d, iv (0 : Int32), iv (2 : Int32), iv (0 : Int32), iv q0] [(.int (255 : Int32)), (.int q0)]))) (fun t_ kont => XS.sipush X0.here hx rfl (hb hby d15_17) kont) ?_
  refine own_bk (S' := (s₁.setTop (mkF m 23 #[rv b, iv (0 : Int32), rv d, iv (0 : Int32), iv (2 : Int32), iv (0 : Int32), iv q0] []))) (fun t_ kont => XS.icmpNo X0.here hx rfl (hb hby d15_20) rfl (tlt (gq0)).2.2.2 kont) ?_
  refine own_bk (S' := (s₁.setTop (mkF m 25 #[rv b, iv (0 : Int32), rv d, iv (0 : Int32), iv (2 : Int32), iv (0 : Int32), iv q0] [(.int (0 : Int32))]))) (fun t_ kont => XS.iload X0.here hx rfl (hb hby d15_23) rfl kont) ?_
  exact own_retI X0 hx hlk Bd.returns (hb hby d15_25) (by rw [e0]; exact ⟨rfl, N0, O, (Keep.refl h0 [d]), _, VD⟩) (by decide) (by decide)
theorem ef_rmC521 (m : MethodId) (x0 : Addr) (x1 : Int32) (x2 : Addr) (x3 : Int32) (x4 : Int32) : entryFrame m #[(.ref x0), (.int x1), (.ref x2), (.int x3), (.int x4)] 7 = mkF m 0 #[.val (.ref x0), .val (.int x1), .val (.ref x2), .val (.int x3), .val (.int x4), .unset, .unset] [] := by first | (simp [entryFrame, mkF, argsToLocals, Value.category, maxLocals]; done) | rfl
def Q_rmC521 (Z : State) (b d : Addr) (kb kd : ClassId) (q0 q1 : Int32) (h0 : Heap) (n0 : Nat) (v : Option Value) (h : Heap) (L : List Loc) : Prop := v = some (.int 1) ∧ Fr n0 L ∧ Old Z n0 h ∧ Keep h0 h [d] ∧ ∃ vs, Arv Z h d kd .byte (2 : Int32) vs (.int (0 : Int32))
set_option maxRecDepth 65536 in
set_option maxHeartbeats 40000000 in
theorem rmC521 (l : Launch) (Z : State) (a0 : Array Value) (hw : ∀ d ∈ tables_1, d.before a0 Z = true) (ws : List Jvm.Cond) (b d : Addr) (kb kd : ClassId) (q0 q1 : Int32) (h0 : Heap) (n0 : Nat) (Z0 : n0 ≤ h0.size) (O : Old Z n0 h0) (VB : Arv Z h0 b kb .char (2 : Int32) [(.int q0), (.int q1)] (.int (0 : Int32))) (VD : Arv Z h0 d kd .byte (2 : Int32) [(.int (0 : Int32)), (.int (0 : Int32))] (.int (0 : Int32))) (nbd : b ≠ d) (ag : n0 ≤ d) (gq0 : ¬ (255 : Int32) < q0) (gq1 : (255 : Int32) < q1) :
    MetFree l (⟨"java/lang/StringUTF16", "compress", "([CI[BII)I"⟩ : MethodName) (head1 (Jvm.Cond.code (⟨"java/lang/StringUTF16", "compress", "([CI[BII)I"⟩ : MethodName) jdk_52_method_21_code 7 (some .int) :: ws) ({ frames := 0, cells := 0, slots := 0, locals := 0 } : Room)) (fun as_ U_ => as_ = #[(.ref b), (.int (0 : Int32)), (.ref d), (.int (0 : Int32)), (.int (2 : Int32))] ∧ Z.Warmed39 U_.vm ∧ U_.heap = h0) (fun _ _ _ _ _ => True) (fun _ U_ o_ U2_ => ∃ v_ L_, o_ = .returned v_ ∧ (Q_rmC521 Z b d kb kd q0 q1 h0 n0) v_ U2_.heap L_ ∧ FrameEnd U_ o_ U2_ L_ ({ frames := 0, cells := 0, slots := 0, locals := 0 } : Room).cells ({ frames := 0, cells := 0, slots := 0, locals := 0 } : Room).slots) := by
  refine MetFree.of_bodySF (plainFor_of_name (by first | (simp [plainName, overriddenIn]; done) | decide +kernel : plainName "java/lang/StringUTF16" = true)) hisR ?_
  intro p e s m args below meth c s₁ Bd hml0 hP hK
  obtain ⟨rfl, hZ, hh⟩ := hP
  have hx := Bd.exec
  have hby := Bd.bytes
  have hlk := Bd.notSynchronized
  have hml : c.maxLocals = 7 := hml0
  have hown : s.vm.findClass "java/lang/StringUTF16" = some m.cls := findClass_of_methodNamed Bd.named
  have hnm := (name_of_methodNamed Bd.named Bd.method).1
  have X0 : Stand p l e ({ frames := 0, cells := 0, slots := 0, locals := 0 } : Room) s m #[(.ref b), (.int (0 : Int32)), (.ref d), (.int (0 : Int32)), (.int (2 : Int32))] below meth c s₁ [] 0 0 := Stand.of_body Bd
  have e0 : s₁.heap = h0 := by rw [← hh, Bd.state]; rfl
  have N0 := Fr.nil n0
  show own_Go p e below (own_R s below (Q_rmC521 Z b d kb kd q0 q1 h0 n0) ({ frames := 0, cells := 0, slots := 0, locals := 0 } : Room).cells ({ frames := 0, cells := 0, slots := 0, locals := 0 } : Room).slots) (s₁.setTop (entryFrame m #[(.ref b), (.int (0 : Int32)), (.ref d), (.int (0 : Int32)), (.int (2 : Int32))] 7))
  refine own_bk (S' := (s₁.setTop (mkF m 0 #[rv b, iv (0 : Int32), rv d, iv (0 : Int32), iv (2 : Int32), .unset, .unset] []))) (fun t_ kont => castTop (ef_rmC521 m (b) ((0 : Int32)) (d) ((0 : Int32)) ((2 : Int32))) kont) ?_
  refine own_bk (S' := (s₁.setTop (mkF m 1 #[rv b, iv (0 : Int32), rv d, iv (0 : Int32), iv (2 : Int32), .unset, .unset] [(.int (0 : Int32))]))) (fun t_ kont => XS.iconst X0.here hx rfl (hb hby d15_0) kont) ?_
  refine own_bk (S' := (s₁.setTop (mkF m 3 #[rv b, iv (0 : Int32), rv d, iv (0 : Int32), iv (2 : Int32), iv (0 : Int32), .unset] []))) (fun t_ kont => XS.istore X0.here hx rfl (hb hby d15_1) rfl (l' := #[rv b, iv (0 : Int32), rv d, iv (0 : Int32), iv (2 : Int32), iv (0 : Int32), .unset]) rfl kont) ?_
  refine own_bk (S' := (s₁.setTop (mkF m 5 #[rv b, iv (0 : Int32), rv d, iv (0 : Int32), iv (2 : Int32), iv (0 : Int32), .unset] [(.int (0 : Int32))]))) (fun t_ kont => XS.iload X0.here hx rfl (hb hby d15_3) rfl kont) ?_
  refine own_bk (S' := (s₁.setTop (mkF m 7 #[rv b, iv (0 : Int32), rv d, iv (0 : Int32), iv (2 : Int32), iv (0 : Int32), .unset] [(.int (2 : Int32)), (.int (0 : Int32))]))) (fun t_ kont => XS.iload X0.here hx rfl (hb hby d15_5) rfl kont) ?_
  refine own_bk (S' := (s₁.setTop (mkF m 10 #[rv b, iv (0 : Int32), rv d, iv (0 : Int32), iv (2 : Int32), iv (0 : Int32), .unset] []))) (fun t_ kont => XS.icmpNo X0.here hx rfl (hb hby d15_7) rfl (tlt (by decide : ((0 : Int32)) < ((2 : Int32)))).2.1 kont) ?_
  refine own_bk (S' := (s₁.setTop (mkF m 11 #[rv b, iv (0 : Int32), rv d, iv (0 : Int32), iv (2 : Int32), iv (0 : Int32), .unset] [(.ref b)]))) (fun t_ kont => XS.aloadN X0.here hx rfl (hb hby d15_10) rfl rfl kont) ?_
  refine own_bk (S' := (s₁.setTop (mkF m 12 #[rv b, iv (0 : Int32), rv d, iv (0 : Int32), iv (2 : Int32), iv (0 : Int32), .unset] [(.int (0 : Int32)), (.ref b)]))) (fun t_ kont => XS.iloadN X0.here hx rfl (hb hby d15_11) rfl kont) ?_
  obtain ⟨c1, A2, q3, S4, M5, H6, U7⟩ := id VB
  have hin8 := inb_of (j := (0 : Int32)) S4 ⟨(by decide : ¬ ((0 : Int32) < (0 : Int32))), (by decide : (0 : Int32) < (2 : Int32))⟩
  refine own_bk (S' := (s₁.setTop (mkF m 13 #[rv b, iv (0 : Int32), rv d, iv (0 : Int32), iv (2 : Int32), iv (0 : Int32), .unset] [(.int q0)]))) (fun t_ kont => X0.caload hx (j := (0 : Int32)) (v := (.int q0)) (by rw [show s₁.heap = h0 from e0]; exact A2.1) (State.isArrayOf_alike hZ.alike A2.2.1) A2.2.2 hin8 (Has.at H6 hin8 rfl) (g := (mkF m 12 #[rv b, iv (0 : Int32), rv d, iv (0 : Int32), iv (2 : Int32), iv (0 : Int32), .unset] [(.int (0 : Int32)), (.ref b)])) rfl rfl (hb hby d15_12) _ kont) ?_
  refine own_bk (S' := (s₁.setTop (mkF m 15 #[rv b, iv (0 : Int32), rv d, iv (0 : Int32), iv (2 : Int32), iv (0 : Int32), iv q0] []))) (fun t_ kont => XS.istore X0.here hx rfl (hb hby d15_13) rfl (l' := #[rv b, iv (0 : Int32), rv d, iv (0 : Int32), iv (2 : Int32), iv (0 : Int32), iv q0]) rfl kont) ?_
  refine own_bk (S' := (s₁.setTop (mkF m 17 #[rv b, iv (0 : Int32), rv d, iv (0 : Int32), iv (2 : Int32), iv (0 : Int32), iv q0] [(.int q0)]))) (fun t_ kont => XS.iload X0.here hx rfl (hb hby d15_15) rfl kont) ?_
  refine own_bk (S' := (s₁.setTop (mkF m 20 #[rv b, iv (0 : Int32), rv d, iv (0 : Int32), iv (2 : Int32), iv (0 : Int32), iv q0] [(.int (255 : Int32)), (.int q0)]))) (fun t_ kont => XS.sipush X0.here hx rfl (hb hby d15_17) kont) ?_
  refine own_bk (S' := (s₁.setTop (mkF m 26 #[rv b, iv (0 : Int32), rv d, iv (0 : Int32), iv (2 : Int32), iv (0 : Int32), iv q0] []))) (fun t_ kont => XS.icmpYes X0.here hx rfl (pc0 := 20) (pc' := 26) rfl (hb hby d15_20) rfl (flt (gq0)).2.2.2 (by decide) (by decide) kont) ?_
  refine own_bk (S' := (s₁.setTop (mkF m 27 #[rv b, iv (0 : Int32), rv d, iv (0 : Int32), iv (2 : Int32), iv (0 : Int32), iv q0] [(.ref d)]))) (fun t_ kont => XS.aloadN X0.here hx rfl (hb hby d15_26) rfl rfl kont) ?_
  refine own_bk (S' := (s₁.setTop (mkF m 28 #[rv b, iv (0 : Int32), rv d, iv (0 : Int32), iv (2 : Int32), iv (0 : Int32), iv q0] [(.int (0 : Int32)), (.ref d)]))) (fun t_ kont => XS.iloadN X0.here hx rfl (hb hby d15_27) rfl kont) ?_
  refine own_bk (S' := (s₁.setTop (mkF m 30 #[rv b, iv (0 : Int32), rv d, iv (0 : Int32), iv (2 : Int32), iv (0 : Int32), iv q0] [(.int q0), (.int (0 : Int32)), (.ref d)]))) (fun t_ kont => XS.iload X0.here hx rfl (hb hby d15_28) rfl kont) ?_
  refine own_bk (S' := (s₁.setTop (mkF m 31 #[rv b, iv (0 : Int32), rv d, iv (0 : Int32), iv (2 : Int32), iv (0 : Int32), iv q0] [(.int (q0.toInt8.toInt32)), (.int (0 : Int32)), (.ref d)]))) (fun t_ kont => XS.i2b X0.here hx rfl (hb hby d15_30) rfl kont) ?_
  obtain ⟨c9, A10, q11, S12, M13, H14, U15⟩ := id VD
  obtain ⟨T16, h17, X18, e19, W20, st21⟩ := stB X0 hx hZ e0 A10 (j := (0 : Int32)) (inb_of S12 ⟨(by decide : ¬ ((0 : Int32) < (0 : Int32))), (by decide : (0 : Int32) < (2 : Int32))⟩) (g := (mkF m 31 #[rv b, iv (0 : Int32), rv d, iv (0 : Int32), iv (2 : Int32), iv (0 : Int32), iv q0] [(.int (q0.toInt8.toInt32)), (.int (0 : Int32)), (.ref d)])) rfl rfl (hb hby d15_31)
  have N22 := Fr.snoc X18 N0 ag
  have V23 := (VB.other W20 nbd)
  have Z24 := Nat.le_trans Z0 (Keep.of_wr W20).1
  have O25 := O.wr W20 ag
  have K26 := (Keep.refl h0 [d]).wr W20 (Or.inl (List.mem_of_getElem? (i := 0) rfl))
  have V27 : Arv Z h17 d kd .byte (2 : Int32) [(.int (nar .byte (q0.toInt8.toInt32))), (.int (0 : Int32))] (.int (0 : Int32)) := (Arv.set A10 q11 S12 M13 H14 U15 (fits_nar_byte _) W20 0 rfl (Nat.le_of_ble_eq_true rfl))
  refine own_bk (S' := (T16.setTop (mkF m 32 #[rv b, iv (0 : Int32), rv d, iv (0 : Int32), iv (2 : Int32), iv (0 : Int32), iv q0] []))) st21 ?_
  refine own_bk (S' := (T16.setTop (mkF m 35 #[rv b, iv (1 : Int32), rv d, iv (0 : Int32), iv (2 : Int32), iv (0 : Int32), iv q0] []))) (fun t_ kont => XS.iinc X18.here hx rfl (hb hby d15_32) rfl (l' := #[rv b, iv (1 : Int32), rv d, iv (0 : Int32), iv (2 : Int32), iv (0 : Int32), iv q0]) rfl kont) ?_
  refine own_bk (S' := (T16.setTop (mkF m 38 #[rv b, iv (1 : Int32), rv d, iv (1 : Int32), iv (2 : Int32), iv (0 : Int32), iv q0] []))) (fun t_ kont => XS.iinc X18.here hx rfl (hb hby d15_35) rfl (l' := #[rv b, iv (1 : Int32), rv d, iv (1 : Int32), iv (2 : Int32), iv (0 : Int32), iv q0]) rfl kont) ?_
  refine own_bk (S' := (T16.setTop (mkF m 41 #[rv b, iv (1 : Int32), rv d, iv (1 : Int32), iv (2 : Int32), iv (1 : Int32), iv q0] []))) (fun t_ kont => XS.iinc X18.here hx rfl (hb hby d15_38) rfl (l' := #[rv b, iv (1 : Int32), rv d, iv (1 : Int32), iv (2 : Int32), iv (1 : Int32), iv q0]) rfl kont) ?_
  refine own_bk (S' := (T16.setTop (mkF m 3 #[rv b, iv (1 : Int32), rv d, iv (1 : Int32), iv (2 : Int32), iv (1 : Int32), iv q0] []))) (fun t_ kont => XS.goto X18.here hx rfl (pc0 := 41) (pc' := 3) rfl (hb hby d15_41) (by decide) (by decide) kont) ?_
  refine own_bk (S' := (T16.setTop (mkF m 5 #[rv b, iv (1 : Int32), rv d, iv (1 : Int32), iv (2 : Int32), iv (1 : Int32), iv q0] [(.int (1 : Int32))]))) (fun t_ kont => XS.iload X18.here hx rfl (hb hby d15_3) rfl kont) ?_
  refine own_bk (S' := (T16.setTop (mkF m 7 #[rv b, iv (1 : Int32), rv d, iv (1 : Int32), iv (2 : Int32), iv (1 : Int32), iv q0] [(.int (2 : Int32)), (.int (1 : Int32))]))) (fun t_ kont => XS.iload X18.here hx rfl (hb hby d15_5) rfl kont) ?_
  refine own_bk (S' := (T16.setTop (mkF m 10 #[rv b, iv (1 : Int32), rv d, iv (1 : Int32), iv (2 : Int32), iv (1 : Int32), iv q0] []))) (fun t_ kont => XS.icmpNo X18.here hx rfl (hb hby d15_7) rfl (tlt (by decide : ((1 : Int32)) < ((2 : Int32)))).2.1 kont) ?_
  refine own_bk (S' := (T16.setTop (mkF m 11 #[rv b, iv (1 : Int32), rv d, iv (1 : Int32), iv (2 : Int32), iv (1 : Int32), iv q0] [(.ref b)]))) (fun t_ kont => XS.aloadN X18.here hx rfl (hb hby d15_10) rfl rfl kont) ?_
  refine own_bk (S' := (T16.setTop (mkF m 12 #[rv b, iv (1 : Int32), rv d, iv (1 : Int32), iv (2 : Int32), iv (1 : Int32), iv q0] [(.int (1 : Int32)), (.ref b)]))) (fun t_ kont => XS.iloadN X18.here hx rfl (hb hby d15_11) rfl kont) ?_
  obtain ⟨c28, A29, q30, S31, M32, H33, U34⟩ := id V23
  have hin35 := inb_of (j := (1 : Int32)) S31 ⟨(by decide : ¬ ((1 : Int32) < (0 : Int32))), (by decide : (1 : Int32) < (2 : Int32))⟩
  refine own_bk (S' := (T16.setTop (mkF m 13 #[rv b, iv (1 : Int32), rv d, iv (1 : Int32), iv (2 : Int32), iv (1 : Int32), iv q0] [(.int q1)]))) (fun t_ kont => X18.caload hx (j := (1 : Int32)) (v := (.int q1)) (by rw [show T16.heap = h17 from e19]; exact A29.1) (State.isArrayOf_alike hZ.alike A29.2.1) A29.2.2 hin35 (Has.at H33 hin35 rfl) (g := (mkF m 12 #[rv b, iv (1 : Int32), rv d, iv (1 : Int32), iv (2 : Int32), iv (1 : Int32), iv q0] [(.int (1 : Int32)), (.ref b)])) rfl rfl (hb hby d15_12) _ kont) ?_
  refine own_bk (S' := (T16.setTop (mkF m 15 #[rv b, iv (1 : Int32), rv d, iv (1 : Int32), iv (2 : Int32), iv (1 : Int32), iv q1] []))) (fun t_ kont => XS.istore X18.here hx rfl (hb hby d15_13) rfl (l' := #[rv b, iv (1 : Int32), rv d, iv (1 : Int32), iv (2 : Int32), iv (1 : Int32), iv q1]) rfl kont) ?_
  refine own_bk (S' := (T16.setTop (mkF m 17 #[rv b, iv (1 : Int32), rv d, iv (1 : Int32), iv (2 : Int32), iv (1 : Int32), iv q1] [(.int q1)]))) (fun t_ kont => XS.iload X18.here hx rfl (hb hby d15_15) rfl kont) ?_
  refine own_bk (S' := (T16.setTop (mkF m 20 #[rv b, iv (1 : Int32), rv d, iv (1 : Int32), iv (2 : Int32), iv (1 : Int32), iv q1] [(.int (255 : Int32)), (.int q1)]))) (fun t_ kont => XS.sipush X18.here hx rfl (hb hby d15_17) kont) ?_
  refine own_bk (S' := (T16.setTop (mkF m 23 #[rv b, iv (1 : Int32), rv d, iv (1 : Int32), iv (2 : Int32), iv (1 : Int32), iv q1] []))) (fun t_ kont => XS.icmpNo X18.here hx rfl (hb hby d15_20) rfl (tlt (gq1)).2.2.2 kont) ?_
  refine own_bk (S' := (T16.setTop (mkF m 25 #[rv b, iv (1 : Int32), rv d, iv (1 : Int32), iv (2 : Int32), iv (1 : Int32), iv q1] [(.int (1 : Int32))]))) (fun t_ kont => XS.iload X18.here hx rfl (hb hby d15_23) rfl kont) ?_
  exact own_retI X18 hx hlk Bd.returns (hb hby d15_25) (by rw [e19]; exact ⟨rfl, N22, O25, K26, _, V27⟩) (by decide) (by decide)
theorem ef_rmC522 (m : MethodId) (x0 : Addr) (x1 : Int32) (x2 : Addr) (x3 : Int32) (x4 : Int32) : entryFrame m #[(.ref x0), (.int x1), (.ref x2), (.int x3), (.int x4)] 7 = mkF m 0 #[.val (.ref x0), .val (.int x1), .val (.ref x2), .val (.int x3), .val (.int x4), .unset, .unset] [] := by first | (simp [entryFrame, mkF, argsToLocals, Value.category, maxLocals]; done) | rfl
def Q_rmC522 (Z : State) (b d : Addr) (kb kd : ClassId) (q0 q1 : Int32) (h0 : Heap) (n0 : Nat) (v : Option Value) (h : Heap) (L : List Loc) : Prop := v = some (.int 2) ∧ Fr n0 L ∧ Old Z n0 h ∧ Keep h0 h [d] ∧ ∃ vs, Arv Z h d kd .byte (2 : Int32) vs (.int (0 : Int32))
set_option maxRecDepth 65536 in
set_option maxHeartbeats 40000000 in
theorem rmC522 (l : Launch) (Z : State) (a0 : Array Value) (hw : ∀ d ∈ tables_1, d.before a0 Z = true) (ws : List Jvm.Cond) (b d : Addr) (kb kd : ClassId) (q0 q1 : Int32) (h0 : Heap) (n0 : Nat) (Z0 : n0 ≤ h0.size) (O : Old Z n0 h0) (VB : Arv Z h0 b kb .char (2 : Int32) [(.int q0), (.int q1)] (.int (0 : Int32))) (VD : Arv Z h0 d kd .byte (2 : Int32) [(.int (0 : Int32)), (.int (0 : Int32))] (.int (0 : Int32))) (nbd : b ≠ d) (ag : n0 ≤ d) (gq0 : ¬ (255 : Int32) < q0) (gq1 : ¬ (255 : Int32) < q1) :
    MetFree l (⟨"java/lang/StringUTF16", "compress", "([CI[BII)I"⟩ : MethodName) (head1 (Jvm.Cond.code (⟨"java/lang/StringUTF16", "compress", "([CI[BII)I"⟩ : MethodName) jdk_52_method_21_code 7 (some .int) :: ws) ({ frames := 0, cells := 0, slots := 0, locals := 0 } : Room)) (fun as_ U_ => as_ = #[(.ref b), (.int (0 : Int32)), (.ref d), (.int (0 : Int32)), (.int (2 : Int32))] ∧ Z.Warmed39 U_.vm ∧ U_.heap = h0) (fun _ _ _ _ _ => True) (fun _ U_ o_ U2_ => ∃ v_ L_, o_ = .returned v_ ∧ (Q_rmC522 Z b d kb kd q0 q1 h0 n0) v_ U2_.heap L_ ∧ FrameEnd U_ o_ U2_ L_ ({ frames := 0, cells := 0, slots := 0, locals := 0 } : Room).cells ({ frames := 0, cells := 0, slots := 0, locals := 0 } : Room).slots) := by
  refine MetFree.of_bodySF (plainFor_of_name (by first | (simp [plainName, overriddenIn]; done) | decide +kernel : plainName "java/lang/StringUTF16" = true)) hisR ?_
  intro p e s m args below meth c s₁ Bd hml0 hP hK
  obtain ⟨rfl, hZ, hh⟩ := hP
  have hx := Bd.exec
  have hby := Bd.bytes
  have hlk := Bd.notSynchronized
  have hml : c.maxLocals = 7 := hml0
  have hown : s.vm.findClass "java/lang/StringUTF16" = some m.cls := findClass_of_methodNamed Bd.named
  have hnm := (name_of_methodNamed Bd.named Bd.method).1
  have X0 : Stand p l e ({ frames := 0, cells := 0, slots := 0, locals := 0 } : Room) s m #[(.ref b), (.int (0 : Int32)), (.ref d), (.int (0 : Int32)), (.int (2 : Int32))] below meth c s₁ [] 0 0 := Stand.of_body Bd
  have e0 : s₁.heap = h0 := by rw [← hh, Bd.state]; rfl
  have N0 := Fr.nil n0
  show own_Go p e below (own_R s below (Q_rmC522 Z b d kb kd q0 q1 h0 n0) ({ frames := 0, cells := 0, slots := 0, locals := 0 } : Room).cells ({ frames := 0, cells := 0, slots := 0, locals := 0 } : Room).slots) (s₁.setTop (entryFrame m #[(.ref b), (.int (0 : Int32)), (.ref d), (.int (0 : Int32)), (.int (2 : Int32))] 7))
  refine own_bk (S' := (s₁.setTop (mkF m 0 #[rv b, iv (0 : Int32), rv d, iv (0 : Int32), iv (2 : Int32), .unset, .unset] []))) (fun t_ kont => castTop (ef_rmC522 m (b) ((0 : Int32)) (d) ((0 : Int32)) ((2 : Int32))) kont) ?_
  refine own_bk (S' := (s₁.setTop (mkF m 1 #[rv b, iv (0 : Int32), rv d, iv (0 : Int32), iv (2 : Int32), .unset, .unset] [(.int (0 : Int32))]))) (fun t_ kont => XS.iconst X0.here hx rfl (hb hby d15_0) kont) ?_
  refine own_bk (S' := (s₁.setTop (mkF m 3 #[rv b, iv (0 : Int32), rv d, iv (0 : Int32), iv (2 : Int32), iv (0 : Int32), .unset] []))) (fun t_ kont => XS.istore X0.here hx rfl (hb hby d15_1) rfl (l' := #[rv b, iv (0 : Int32), rv d, iv (0 : Int32), iv (2 : Int32), iv (0 : Int32), .unset]) rfl kont) ?_
  refine own_bk (S' := (s₁.setTop (mkF m 5 #[rv b, iv (0 : Int32), rv d, iv (0 : Int32), iv (2 : Int32), iv (0 : Int32), .unset] [(.int (0 : Int32))]))) (fun t_ kont => XS.iload X0.here hx rfl (hb hby d15_3) rfl kont) ?_
  refine own_bk (S' := (s₁.setTop (mkF m 7 #[rv b, iv (0 : Int32), rv d, iv (0 : Int32), iv (2 : Int32), iv (0 : Int32), .unset] [(.int (2 : Int32)), (.int (0 : Int32))]))) (fun t_ kont => XS.iload X0.here hx rfl (hb hby d15_5) rfl kont) ?_
  refine own_bk (S' := (s₁.setTop (mkF m 10 #[rv b, iv (0 : Int32), rv d, iv (0 : Int32), iv (2 : Int32), iv (0 : Int32), .unset] []))) (fun t_ kont => XS.icmpNo X0.here hx rfl (hb hby d15_7) rfl (tlt (by decide : ((0 : Int32)) < ((2 : Int32)))).2.1 kont) ?_
  refine own_bk (S' := (s₁.setTop (mkF m 11 #[rv b, iv (0 : Int32), rv d, iv (0 : Int32), iv (2 : Int32), iv (0 : Int32), .unset] [(.ref b)]))) (fun t_ kont => XS.aloadN X0.here hx rfl (hb hby d15_10) rfl rfl kont) ?_
  refine own_bk (S' := (s₁.setTop (mkF m 12 #[rv b, iv (0 : Int32), rv d, iv (0 : Int32), iv (2 : Int32), iv (0 : Int32), .unset] [(.int (0 : Int32)), (.ref b)]))) (fun t_ kont => XS.iloadN X0.here hx rfl (hb hby d15_11) rfl kont) ?_
  obtain ⟨c1, A2, q3, S4, M5, H6, U7⟩ := id VB
  have hin8 := inb_of (j := (0 : Int32)) S4 ⟨(by decide : ¬ ((0 : Int32) < (0 : Int32))), (by decide : (0 : Int32) < (2 : Int32))⟩
  refine own_bk (S' := (s₁.setTop (mkF m 13 #[rv b, iv (0 : Int32), rv d, iv (0 : Int32), iv (2 : Int32), iv (0 : Int32), .unset] [(.int q0)]))) (fun t_ kont => X0.caload hx (j := (0 : Int32)) (v := (.int q0)) (by rw [show s₁.heap = h0 from e0]; exact A2.1) (State.isArrayOf_alike hZ.alike A2.2.1) A2.2.2 hin8 (Has.at H6 hin8 rfl) (g := (mkF m 12 #[rv b, iv (0 : Int32), rv d, iv (0 : Int32), iv (2 : Int32), iv (0 : Int32), .unset] [(.int (0 : Int32)), (.ref b)])) rfl rfl (hb hby d15_12) _ kont) ?_
  refine own_bk (S' := (s₁.setTop (mkF m 15 #[rv b, iv (0 : Int32), rv d, iv (0 : Int32), iv (2 : Int32), iv (0 : Int32), iv q0] []))) (fun t_ kont => XS.istore X0.here hx rfl (hb hby d15_13) rfl (l' := #[rv b, iv (0 : Int32), rv d, iv (0 : Int32), iv (2 : Int32), iv (0 : Int32), iv q0]) rfl kont) ?_
  refine own_bk (S' := (s₁.setTop (mkF m 17 #[rv b, iv (0 : Int32), rv d, iv (0 : Int32), iv (2 : Int32), iv (0 : Int32), iv q0] [(.int q0)]))) (fun t_ kont => XS.iload X0.here hx rfl (hb hby d15_15) rfl kont) ?_
  refine own_bk (S' := (s₁.setTop (mkF m 20 #[rv b, iv (0 : Int32), rv d, iv (0 : Int32), iv (2 : Int32), iv (0 : Int32), iv q0] [(.int (255 : Int32)), (.int q0)]))) (fun t_ kont => XS.sipush X0.here hx rfl (hb hby d15_17) kont) ?_
  refine own_bk (S' := (s₁.setTop (mkF m 26 #[rv b, iv (0 : Int32), rv d, iv (0 : Int32), iv (2 : Int32), iv (0 : Int32), iv q0] []))) (fun t_ kont => XS.icmpYes X0.here hx rfl (pc0 := 20) (pc' := 26) rfl (hb hby d15_20) rfl (flt (gq0)).2.2.2 (by decide) (by decide) kont) ?_
  refine own_bk (S' := (s₁.setTop (mkF m 27 #[rv b, iv (0 : Int32), rv d, iv (0 : Int32), iv (2 : Int32), iv (0 : Int32), iv q0] [(.ref d)]))) (fun t_ kont => XS.aloadN X0.here hx rfl (hb hby d15_26) rfl rfl kont) ?_
  refine own_bk (S' := (s₁.setTop (mkF m 28 #[rv b, iv (0 : Int32), rv d, iv (0 : Int32), iv (2 : Int32), iv (0 : Int32), iv q0] [(.int (0 : Int32)), (.ref d)]))) (fun t_ kont => XS.iloadN X0.here hx rfl (hb hby d15_27) rfl kont) ?_
  refine own_bk (S' := (s₁.setTop (mkF m 30 #[rv b, iv (0 : Int32), rv d, iv (0 : Int32), iv (2 : Int32), iv (0 : Int32), iv q0] [(.int q0), (.int (0 : Int32)), (.ref d)]))) (fun t_ kont => XS.iload X0.here hx rfl (hb hby d15_28) rfl kont) ?_
  refine own_bk (S' := (s₁.setTop (mkF m 31 #[rv b, iv (0 : Int32), rv d, iv (0 : Int32), iv (2 : Int32), iv (0 : Int32), iv q0] [(.int (q0.toInt8.toInt32)), (.int (0 : Int32)), (.ref d)]))) (fun t_ kont => XS.i2b X0.here hx rfl (hb hby d15_30) rfl kont) ?_
  obtain ⟨c9, A10, q11, S12, M13, H14, U15⟩ := id VD
  obtain ⟨T16, h17, X18, e19, W20, st21⟩ := stB X0 hx hZ e0 A10 (j := (0 : Int32)) (inb_of S12 ⟨(by decide : ¬ ((0 : Int32) < (0 : Int32))), (by decide : (0 : Int32) < (2 : Int32))⟩) (g := (mkF m 31 #[rv b, iv (0 : Int32), rv d, iv (0 : Int32), iv (2 : Int32), iv (0 : Int32), iv q0] [(.int (q0.toInt8.toInt32)), (.int (0 : Int32)), (.ref d)])) rfl rfl (hb hby d15_31)
  have N22 := Fr.snoc X18 N0 ag
  have V23 := (VB.other W20 nbd)
  have Z24 := Nat.le_trans Z0 (Keep.of_wr W20).1
  have O25 := O.wr W20 ag
  have K26 := (Keep.refl h0 [d]).wr W20 (Or.inl (List.mem_of_getElem? (i := 0) rfl))
  have V27 : Arv Z h17 d kd .byte (2 : Int32) [(.int (nar .byte (q0.toInt8.toInt32))), (.int (0 : Int32))] (.int (0 : Int32)) := (Arv.set A10 q11 S12 M13 H14 U15 (fits_nar_byte _) W20 0 rfl (Nat.le_of_ble_eq_true rfl))
  refine own_bk (S' := (T16.setTop (mkF m 32 #[rv b, iv (0 : Int32), rv d, iv (0 : Int32), iv (2 : Int32), iv (0 : Int32), iv q0] []))) st21 ?_
  refine own_bk (S' := (T16.setTop (mkF m 35 #[rv b, iv (1 : Int32), rv d, iv (0 : Int32), iv (2 : Int32), iv (0 : Int32), iv q0] []))) (fun t_ kont => XS.iinc X18.here hx rfl (hb hby d15_32) rfl (l' := #[rv b, iv (1 : Int32), rv d, iv (0 : Int32), iv (2 : Int32), iv (0 : Int32), iv q0]) rfl kont) ?_
  refine own_bk (S' := (T16.setTop (mkF m 38 #[rv b, iv (1 : Int32), rv d, iv (1 : Int32), iv (2 : Int32), iv (0 : Int32), iv q0] []))) (fun t_ kont => XS.iinc X18.here hx rfl (hb hby d15_35) rfl (l' := #[rv b, iv (1 : Int32), rv d, iv (1 : Int32), iv (2 : Int32), iv (0 : Int32), iv q0]) rfl kont) ?_
  refine own_bk (S' := (T16.setTop (mkF m 41 #[rv b, iv (1 : Int32), rv d, iv (1 : Int32), iv (2 : Int32), iv (1 : Int32), iv q0] []))) (fun t_ kont => XS.iinc X18.here hx rfl (hb hby d15_38) rfl (l' := #[rv b, iv (1 : Int32), rv d, iv (1 : Int32), iv (2 : Int32), iv (1 : Int32), iv q0]) rfl kont) ?_
  refine own_bk (S' := (T16.setTop (mkF m 3 #[rv b, iv (1 : Int32), rv d, iv (1 : Int32), iv (2 : Int32), iv (1 : Int32), iv q0] []))) (fun t_ kont => XS.goto X18.here hx rfl (pc0 := 41) (pc' := 3) rfl (hb hby d15_41) (by decide) (by decide) kont) ?_
  refine own_bk (S' := (T16.setTop (mkF m 5 #[rv b, iv (1 : Int32), rv d, iv (1 : Int32), iv (2 : Int32), iv (1 : Int32), iv q0] [(.int (1 : Int32))]))) (fun t_ kont => XS.iload X18.here hx rfl (hb hby d15_3) rfl kont) ?_
  refine own_bk (S' := (T16.setTop (mkF m 7 #[rv b, iv (1 : Int32), rv d, iv (1 : Int32), iv (2 : Int32), iv (1 : Int32), iv q0] [(.int (2 : Int32)), (.int (1 : Int32))]))) (fun t_ kont => XS.iload X18.here hx rfl (hb hby d15_5) rfl kont) ?_
  refine own_bk (S' := (T16.setTop (mkF m 10 #[rv b, iv (1 : Int32), rv d, iv (1 : Int32), iv (2 : Int32), iv (1 : Int32), iv q0] []))) (fun t_ kont => XS.icmpNo X18.here hx rfl (hb hby d15_7) rfl (tlt (by decide : ((1 : Int32)) < ((2 : Int32)))).2.1 kont) ?_
  refine own_bk (S' := (T16.setTop (mkF m 11 #[rv b, iv (1 : Int32), rv d, iv (1 : Int32), iv (2 : Int32), iv (1 : Int32), iv q0] [(.ref b)]))) (fun t_ kont => XS.aloadN X18.here hx rfl (hb hby d15_10) rfl rfl kont) ?_
  refine own_bk (S' := (T16.setTop (mkF m 12 #[rv b, iv (1 : Int32), rv d, iv (1 : Int32), iv (2 : Int32), iv (1 : Int32), iv q0] [(.int (1 : Int32)), (.ref b)]))) (fun t_ kont => XS.iloadN X18.here hx rfl (hb hby d15_11) rfl kont) ?_
  obtain ⟨c28, A29, q30, S31, M32, H33, U34⟩ := id V23
  have hin35 := inb_of (j := (1 : Int32)) S31 ⟨(by decide : ¬ ((1 : Int32) < (0 : Int32))), (by decide : (1 : Int32) < (2 : Int32))⟩
  refine own_bk (S' := (T16.setTop (mkF m 13 #[rv b, iv (1 : Int32), rv d, iv (1 : Int32), iv (2 : Int32), iv (1 : Int32), iv q0] [(.int q1)]))) (fun t_ kont => X18.caload hx (j := (1 : Int32)) (v := (.int q1)) (by rw [show T16.heap = h17 from e19]; exact A29.1) (State.isArrayOf_alike hZ.alike A29.2.1) A29.2.2 hin35 (Has.at H33 hin35 rfl) (g := (mkF m 12 #[rv b, iv (1 : Int32), rv d, iv (1 : Int32), iv (2 : Int32), iv (1 : Int32), iv q0] [(.int (1 : Int32)), (.ref b)])) rfl rfl (hb hby d15_12) _ kont) ?_
  refine own_bk (S' := (T16.setTop (mkF m 15 #[rv b, iv (1 : Int32), rv d, iv (1 : Int32), iv (2 : Int32), iv (1 : Int32), iv q1] []))) (fun t_ kont => XS.istore X18.here hx rfl (hb hby d15_13) rfl (l' := #[rv b, iv (1 : Int32), rv d, iv (1 : Int32), iv (2 : Int32), iv (1 : Int32), iv q1]) rfl kont) ?_
  refine own_bk (S' := (T16.setTop (mkF m 17 #[rv b, iv (1 : Int32), rv d, iv (1 : Int32), iv (2 : Int32), iv (1 : Int32), iv q1] [(.int q1)]))) (fun t_ kont => XS.iload X18.here hx rfl (hb hby d15_15) rfl kont) ?_
  refine own_bk (S' := (T16.setTop (mkF m 20 #[rv b, iv (1 : Int32), rv d, iv (1 : Int32), iv (2 : Int32), iv (1 : Int32), iv q1] [(.int (255 : Int32)), (.int q1)]))) (fun t_ kont => XS.sipush X18.here hx rfl (hb hby d15_17) kont) ?_
  refine own_bk (S' := (T16.setTop (mkF m 26 #[rv b, iv (1 : Int32), rv d, iv (1 : Int32), iv (2 : Int32), iv (1 : Int32), iv q1] []))) (fun t_ kont => XS.icmpYes X18.here hx rfl (pc0 := 20) (pc' := 26) rfl (hb hby d15_20) rfl (flt (gq1)).2.2.2 (by decide) (by decide) kont) ?_
  refine own_bk (S' := (T16.setTop (mkF m 27 #[rv b, iv (1 : Int32), rv d, iv (1 : Int32), iv (2 : Int32), iv (1 : Int32), iv q1] [(.ref d)]))) (fun t_ kont => XS.aloadN X18.here hx rfl (hb hby d15_26) rfl rfl kont) ?_
  refine own_bk (S' := (T16.setTop (mkF m 28 #[rv b, iv (1 : Int32), rv d, iv (1 : Int32), iv (2 : Int32), iv (1 : Int32), iv q1] [(.int (1 : Int32)), (.ref d)]))) (fun t_ kont => XS.iloadN X18.here hx rfl (hb hby d15_27) rfl kont) ?_
  refine own_bk (S' := (T16.setTop (mkF m 30 #[rv b, iv (1 : Int32), rv d, iv (1 : Int32), iv (2 : Int32), iv (1 : Int32), iv q1] [(.int q1), (.int (1 : Int32)), (.ref d)]))) (fun t_ kont => XS.iload X18.here hx rfl (hb hby d15_28) rfl kont) ?_
  refine own_bk (S' := (T16.setTop (mkF m 31 #[rv b, iv (1 : Int32), rv d, iv (1 : Int32), iv (2 : Int32), iv (1 : Int32), iv q1] [(.int (q1.toInt8.toInt32)), (.int (1 : Int32)), (.ref d)]))) (fun t_ kont => XS.i2b X18.here hx rfl (hb hby d15_30) rfl kont) ?_
  obtain ⟨c36, A37, q38, S39, M40, H41, U42⟩ := id V27
  obtain ⟨T43, h44, X45, e46, W47, st48⟩ := stB X18 hx hZ e19 A37 (j := (1 : Int32)) (inb_of S39 ⟨(by decide : ¬ ((1 : Int32) < (0 : Int32))), (by decide : (1 : Int32) < (2 : Int32))⟩) (g := (mkF m 31 #[rv b, iv (1 : Int32), rv d, iv (1 : Int32), iv (2 : Int32), iv (1 : Int32), iv q1] [(.int (q1.toInt8.toInt32)), (.int (1 : Int32)), (.ref d)])) rfl rfl (hb hby d15_31)
  have N49 := Fr.snoc X45 N22 ag
  have V50 := (V23.other W47 nbd)
  have Z51 := Nat.le_trans Z24 (Keep.of_wr W47).1
  have O52 := O25.wr W47 ag
  have K53 := K26.wr W47 (Or.inl (List.mem_of_getElem? (i := 0) rfl))
  have V54 : Arv Z h44 d kd .byte (2 : Int32) [(.int (nar .byte (q0.toInt8.toInt32))), (.int (nar .byte (q1.toInt8.toInt32)))] (.int (0 : Int32)) := (Arv.set A37 q38 S39 M40 H41 U42 (fits_nar_byte _) W47 1 rfl (Nat.le_of_ble_eq_true rfl))
  refine own_bk (S' := (T43.setTop (mkF m 32 #[rv b, iv (1 : Int32), rv d, iv (1 : Int32), iv (2 : Int32), iv (1 : Int32), iv q1] []))) st48 ?_
  refine own_bk (S' := (T43.setTop (mkF m 35 #[rv b, iv (2 : Int32), rv d, iv (1 : Int32), iv (2 : Int32), iv (1 : Int32), iv q1] []))) (fun t_ kont => XS.iinc X45.here hx rfl (hb hby d15_32) rfl (l' := #[rv b, iv (2 : Int32), rv d, iv (1 : Int32), iv (2 : Int32), iv (1 : Int32), iv q1]) rfl kont) ?_
  refine own_bk (S' := (T43.setTop (mkF m 38 #[rv b, iv (2 : Int32), rv d, iv (2 : Int32), iv (2 : Int32), iv (1 : Int32), iv q1] []))) (fun t_ kont => XS.iinc X45.here hx rfl (hb hby d15_35) rfl (l' := #[rv b, iv (2 : Int32), rv d, iv (2 : Int32), iv (2 : Int32), iv (1 : Int32), iv q1]) rfl kont) ?_
  refine own_bk (S' := (T43.setTop (mkF m 41 #[rv b, iv (2 : Int32), rv d, iv (2 : Int32), iv (2 : Int32), iv (2 : Int32), iv q1] []))) (fun t_ kont => XS.iinc X45.here hx rfl (hb hby d15_38) rfl (l' := #[rv b, iv (2 : Int32), rv d, iv (2 : Int32), iv (2 : Int32), iv (2 : Int32), iv q1]) rfl kont) ?_
  refine own_bk (S' := (T43.setTop (mkF m 3 #[rv b, iv (2 : Int32), rv d, iv (2 : Int32), iv (2 : Int32), iv (2 : Int32), iv q1] []))) (fun t_ kont => XS.goto X45.here hx rfl (pc0 := 41) (pc' := 3) rfl (hb hby d15_41) (by decide) (by decide) kont) ?_
  refine own_bk (S' := (T43.setTop (mkF m 5 #[rv b, iv (2 : Int32), rv d, iv (2 : Int32), iv (2 : Int32), iv (2 : Int32), iv q1] [(.int (2 : Int32))]))) (fun t_ kont => XS.iload X45.here hx rfl (hb hby d15_3) rfl kont) ?_
  refine own_bk (S' := (T43.setTop (mkF m 7 #[rv b, iv (2 : Int32), rv d, iv (2 : Int32), iv (2 : Int32), iv (2 : Int32), iv q1] [(.int (2 : Int32)), (.int (2 : Int32))]))) (fun t_ kont => XS.iload X45.here hx rfl (hb hby d15_5) rfl kont) ?_
  refine own_bk (S' := (T43.setTop (mkF m 44 #[rv b, iv (2 : Int32), rv d, iv (2 : Int32), iv (2 : Int32), iv (2 : Int32), iv q1] []))) (fun t_ kont => XS.icmpYes X45.here hx rfl (pc0 := 7) (pc' := 44) rfl (hb hby d15_7) rfl (flt (by decide : ¬ ((2 : Int32)) < ((2 : Int32)))).2.1 (by decide) (by decide) kont) ?_
  refine own_bk (S' := (T43.setTop (mkF m 46 #[rv b, iv (2 : Int32), rv d, iv (2 : Int32), iv (2 : Int32), iv (2 : Int32), iv q1] [(.int (2 : Int32))]))) (fun t_ kont => XS.iload X45.here hx rfl (hb hby d15_44) rfl kont) ?_
  exact own_retI X45 hx hlk Bd.returns (hb hby d15_46) (by rw [e46]; exact ⟨rfl, N49, O52, K53, _, V54⟩) (by decide) (by decide)
theorem ef_rmC530 (m : MethodId) (x0 : Addr) (x1 : Int32) (x2 : Addr) (x3 : Int32) (x4 : Int32) : entryFrame m #[(.ref x0), (.int x1), (.ref x2), (.int x3), (.int x4)] 7 = mkF m 0 #[.val (.ref x0), .val (.int x1), .val (.ref x2), .val (.int x3), .val (.int x4), .unset, .unset] [] := by first | (simp [entryFrame, mkF, argsToLocals, Value.category, maxLocals]; done) | rfl
def Q_rmC530 (Z : State) (b d : Addr) (kb kd : ClassId) (q0 q1 q2 : Int32) (h0 : Heap) (n0 : Nat) (v : Option Value) (h : Heap) (L : List Loc) : Prop := v = some (.int 0) ∧ Fr n0 L ∧ Old Z n0 h ∧ Keep h0 h [d] ∧ ∃ vs, Arv Z h d kd .byte (3 : Int32) vs (.int (0 : Int32))
set_option maxRecDepth 65536 in
set_option maxHeartbeats 40000000 in
theorem rmC530 (l : Launch) (Z : State) (a0 : Array Value) (hw : ∀ d ∈ tables_1, d.before a0 Z = true) (ws : List Jvm.Cond) (b d : Addr) (kb kd : ClassId) (q0 q1 q2 : Int32) (h0 : Heap) (n0 : Nat) (Z0 : n0 ≤ h0.size) (O : Old Z n0 h0) (VB : Arv Z h0 b kb .char (3 : Int32) [(.int q0), (.int q1), (.int q2)] (.int (0 : Int32))) (VD : Arv Z h0 d kd .byte (3 : Int32) [(.int (0 : Int32)), (.int (0 : Int32)), (.int (0 : Int32))] (.int (0 : Int32))) (nbd : b ≠ d) (ag : n0 ≤ d)  (gq0 : (255 : Int32) < q0) :
    MetFree l (⟨"java/lang/StringUTF16", "compress", "([CI[BII)I"⟩ : MethodName) (head1 (Jvm.Cond.code (⟨"java/lang/StringUTF16", "compress", "([CI[BII)I"⟩ : MethodName) jdk_52_method_21_code 7 (some .int) :: ws) ({ frames := 0, cells := 0, slots := 0, locals := 0 } : Room)) (fun as_ U_ => as_ = #[(.ref b), (.int (0 : Int32)), (.ref d), (.int (0 : Int32)), (.int (3 : Int32))] ∧ Z.Warmed39 U_.vm ∧ U_.heap = h0) (fun _ _ _ _ _ => True) (fun _ U_ o_ U2_ => ∃ v_ L_, o_ = .returned v_ ∧ (Q_rmC530 Z b d kb kd q0 q1 q2 h0 n0) v_ U2_.heap L_ ∧ FrameEnd U_ o_ U2_ L_ ({ frames := 0, cells := 0, slots := 0, locals := 0 } : Room).cells ({ frames := 0, cells := 0, slots := 0, locals := 0 } : Room).slots) := by
  refine MetFree.of_bodySF (plainFor_of_name (by first | (simp [plainName, overriddenIn]; done) | decide +kernel : plainName "java/lang/StringUTF16" = true)) hisR ?_
  intro p e s m args below meth c s₁ Bd hml0 hP hK
  obtain ⟨rfl, hZ, hh⟩ := hP
  have hx := Bd.exec
  have hby := Bd.bytes
  have hlk := Bd.notSynchronized
  have hml : c.maxLocals = 7 := hml0
  have hown : s.vm.findClass "java/lang/StringUTF16" = some m.cls := findClass_of_methodNamed Bd.named
  have hnm := (name_of_methodNamed Bd.named Bd.method).1
  have X0 : Stand p l e ({ frames := 0, cells := 0, slots := 0, locals := 0 } : Room) s m #[(.ref b), (.int (0 : Int32)), (.ref d), (.int (0 : Int32)), (.int (3 : Int32))] below meth c s₁ [] 0 0 := Stand.of_body Bd
  have e0 : s₁.heap = h0 := by rw [← hh, Bd.state]; rfl
  have N0 := Fr.nil n0
  show own_Go p e below (own_R s below (Q_rmC530 Z b d kb kd q0 q1 q2 h0 n0) ({ frames := 0, cells := 0, slots := 0, locals := 0 } : Room).cells ({ frames := 0, cells := 0, slots := 0, locals := 0 } : Room).slots) (s₁.setTop (entryFrame m #[(.ref b), (.int (0 : Int32)), (.ref d), (.int (0 : Int32)), (.int (3 : Int32))] 7))
  refine own_bk (S' := (s₁.setTop (mkF m 0 #[rv b, iv (0 : Int32), rv d, iv (0 : Int32), iv (3 : Int32), .unset, .unset] []))) (fun t_ kont => castTop (ef_rmC530 m (b) ((0 : Int32)) (d) ((0 : Int32)) ((3 : Int32))) kont) ?_
  refine own_bk (S' := (s₁.setTop (mkF m 1 #[rv b, iv (0 : Int32), rv d, iv (0 : Int32), iv (3 : Int32), .unset, .unset] [(.int (0 : Int32))]))) (fun t_ kont => XS.iconst X0.here hx rfl (hb hby d15_0) kont) ?_
  refine own_bk (S' := (s₁.setTop (mkF m 3 #[rv b, iv (0 : Int32), rv d, iv (0 : Int32), iv (3 : Int32), iv (0 : Int32), .unset] []))) (fun t_ kont => XS.istore X0.here hx rfl (hb hby d15_1) rfl (l' := #[rv b, iv (0 : Int32), rv d, iv (0 : Int32), iv (3 : Int32), iv (0 : Int32), .unset]) rfl kont) ?_
  refine own_bk (S' := (s₁.setTop (mkF m 5 #[rv b, iv (0 : Int32), rv d, iv (0 : Int32), iv (3 : Int32), iv (0 : Int32), .unset] [(.int (0 : Int32))]))) (fun t_ kont => XS.iload X0.here hx rfl (hb hby d15_3) rfl kont) ?_
  refine own_bk (S' := (s₁.setTop (mkF m 7 #[rv b, iv (0 : Int32), rv d, iv (0 : Int32), iv (3 : Int32), iv (0 : Int32), .unset] [(.int (3 : Int32)), (.int (0 : Int32))]))) (fun t_ kont => XS.iload X0.here hx rfl (hb hby d15_5) rfl kont) ?_
  refine own_bk (S' := (s₁.setTop (mkF m 10 #[rv b, iv (0 : Int32), rv d, iv (0 : Int32), iv (3 : Int32), iv (0 : Int32), .unset] []))) (fun t_ kont => XS.icmpNo X0.here hx rfl (hb hby d15_7) rfl (tlt (by decide : ((0 : Int32)) < ((3 : Int32)))).2.1 kont) ?_
  refine own_bk (S' := (s₁.setTop (mkF m 11 #[rv b, iv (0 : Int32), rv d, iv (0 : Int32), iv (3 : Int32), iv (0 : Int32), .unset] [(.ref b)]))) (fun t_ kont => XS.aloadN X0.here hx rfl (hb hby d15_10) rfl rfl kont) ?_
  refine own_bk (S' := (s₁.setTop (mkF m 12 #[rv b, iv (0 : Int32), rv d, iv (0 : Int32), iv (3 : Int32), iv (0 : Int32), .unset] [(.int (0 : Int32)), (.ref b)]))) (fun t_ kont => XS.iloadN X0.here hx rfl (hb hby d15_11) rfl kont) ?_
  obtain ⟨c1, A2, q3, S4, M5, H6, U7⟩ := id VB
  have hin8 := inb_of (j := (0 : Int32)) S4 ⟨(by decide : ¬ ((0 : Int32) < (0 : Int32))), (by decide : (0 : Int32) < (3 : Int32))⟩
  refine own_bk (S' := (s₁.setTop (mkF m 13 #[rv b, iv (0 : Int32), rv d, iv (0 : Int32), iv (3 : Int32), iv (0 : Int32), .unset] [(.int q0)]))) (fun t_ kont => X0.caload hx (j := (0 : Int32)) (v := (.int q0)) (by rw [show s₁.heap = h0 from e0]; exact A2.1) (State.isArrayOf_alike hZ.alike A2.2.1) A2.2.2 hin8 (Has.at H6 hin8 rfl) (g := (mkF m 12 #[rv b, iv (0 : Int32), rv d, iv (0 : Int32), iv (3 : Int32), iv (0 : Int32), .unset] [(.int (0 : Int32)), (.ref b)])) rfl rfl (hb hby d15_12) _ kont) ?_
  refine own_bk (S' := (s₁.setTop (mkF m 15 #[rv b, iv (0 : Int32), rv d, iv (0 : Int32), iv (3 : Int32), iv (0 : Int32), iv q0] []))) (fun t_ kont => XS.istore X0.here hx rfl (hb hby d15_13) rfl (l' := #[rv b, iv (0 : Int32), rv d, iv (0 : Int32), iv (3 : Int32), iv (0 : Int32), iv q0]) rfl kont) ?_
  refine own_bk (S' := (s₁.setTop (mkF m 17 #[rv b, iv (0 : Int32), rv d, iv (0 : Int32), iv (3 : Int32), iv (0 : Int32), iv q0] [(.int q0)]))) (fun t_ kont => XS.iload X0.here hx rfl (hb hby d15_15) rfl kont) ?_
  refine own_bk (S' := (s₁.setTop (mkF m 20 #[rv b, iv (0 : Int32), rv d, iv (0 : Int32), iv (3 : Int32), iv (0 : Int32), iv q0] [(.int (255 : Int32)), (.int q0)]))) (fun t_ kont => XS.sipush X0.here hx rfl (hb hby d15_17) kont) ?_
  refine own_bk (S' := (s₁.setTop (mkF m 23 #[rv b, iv (0 : Int32), rv d, iv (0 : Int32), iv (3 : Int32), iv (0 : Int32), iv q0] []))) (fun t_ kont => XS.icmpNo X0.here hx rfl (hb hby d15_20) rfl (tlt (gq0)).2.2.2 kont) ?_
  refine own_bk (S' := (s₁.setTop (mkF m 25 #[rv b, iv (0 : Int32), rv d, iv (0 : Int32), iv (3 : Int32), iv (0 : Int32), iv q0] [(.int (0 : Int32))]))) (fun t_ kont => XS.iload X0.here hx rfl (hb hby d15_23) rfl kont) ?_
  exact own_retI X0 hx hlk Bd.returns (hb hby d15_25) (by rw [e0]; exact ⟨rfl, N0, O, (Keep.refl h0 [d]), _, VD⟩) (by decide) (by decide)
theorem ef_rmC531 (m : MethodId) (x0 : Addr) (x1 : Int32) (x2 : Addr) (x3 : Int32) (x4 : Int32) : entryFrame m #[(.ref x0), (.int x1), (.ref x2), (.int x3), (.int x4)] 7 = mkF m 0 #[.val (.ref x0), .val (.int x1), .val (.ref x2), .val (.int x3), .val (.int x4), .unset, .unset] [] := by first | (simp [entryFrame, mkF, argsToLocals, Value.category, maxLocals]; done) | rfl
def Q_rmC531 (Z : State) (b d : Addr) (kb kd : ClassId) (q0 q1 q2 : Int32) (h0 : Heap) (n0 : Nat) (v : Option Value) (h : Heap) (L : List Loc) : Prop := v = some (.int 1) ∧ Fr n0 L ∧ Old Z n0 h ∧ Keep h0 h [d] ∧ ∃ vs, Arv Z h d kd .byte (3 : Int32) vs (.int (0 : Int32))
set_option maxRecDepth 65536 in
set_option maxHeartbeats 40000000 in
theorem rmC531 (l : Launch) (Z : State) (a0 : Array Value) (hw : ∀ d ∈ tables_1, d.before a0 Z = true) (ws : List Jvm.Cond) (b d : Addr) (kb kd : ClassId) (q0 q1 q2 : Int32) (h0 : Heap) (n0 : Nat) (Z0 : n0 ≤ h0.size) (O : Old Z n0 h0) (VB : Arv Z h0 b kb .char (3 : Int32) [(.int q0), (.int q1), (.int q2)] (.int (0 : Int32))) (VD : Arv Z h0 d kd .byte (3 : Int32) [(.int (0 : Int32)), (.int (0 : Int32)), (.int (0 : Int32))] (.int (0 : Int32))) (nbd : b ≠ d) (ag : n0 ≤ d) (gq0 : ¬ (255 : Int32) < q0) (gq1 : (255 : Int32) < q1) :
    MetFree l (⟨"java/lang/StringUTF16", "compress", "([CI[BII)I"⟩ : MethodName) (head1 (Jvm.Cond.code (⟨"java/lang/StringUTF16", "compress", "([CI[BII)I"⟩ : MethodName) jdk_52_method_21_code 7 (some .int) :: ws) ({ frames := 0, cells := 0, slots := 0, locals := 0 } : Room)) (fun as_ U_ => as_ = #[(.ref b), (.int (0 : Int32)), (.ref d), (.int (0 : Int32)), (.int (3 : Int32))] ∧ Z.Warmed39 U_.vm ∧ U_.heap = h0) (fun _ _ _ _ _ => True) (fun _ U_ o_ U2_ => ∃ v_ L_, o_ = .returned v_ ∧ (Q_rmC531 Z b d kb kd q0 q1 q2 h0 n0) v_ U2_.heap L_ ∧ FrameEnd U_ o_ U2_ L_ ({ frames := 0, cells := 0, slots := 0, locals := 0 } : Room).cells ({ frames := 0, cells := 0, slots := 0, locals := 0 } : Room).slots) := by
  refine MetFree.of_bodySF (plainFor_of_name (by first | (simp [plainName, overriddenIn]; done) | decide +kernel : plainName "java/lang/StringUTF16" = true)) hisR ?_
  intro p e s m args below meth c s₁ Bd hml0 hP hK
  obtain ⟨rfl, hZ, hh⟩ := hP
  have hx := Bd.exec
  have hby := Bd.bytes
  have hlk := Bd.notSynchronized
  have hml : c.maxLocals = 7 := hml0
  have hown : s.vm.findClass "java/lang/StringUTF16" = some m.cls := findClass_of_methodNamed Bd.named
  have hnm := (name_of_methodNamed Bd.named Bd.method).1
  have X0 : Stand p l e ({ frames := 0, cells := 0, slots := 0, locals := 0 } : Room) s m #[(.ref b), (.int (0 : Int32)), (.ref d), (.int (0 : Int32)), (.int (3 : Int32))] below meth c s₁ [] 0 0 := Stand.of_body Bd
  have e0 : s₁.heap = h0 := by rw [← hh, Bd.state]; rfl
  have N0 := Fr.nil n0
  show own_Go p e below (own_R s below (Q_rmC531 Z b d kb kd q0 q1 q2 h0 n0) ({ frames := 0, cells := 0, slots := 0, locals := 0 } : Room).cells ({ frames := 0, cells := 0, slots := 0, locals := 0 } : Room).slots) (s₁.setTop (entryFrame m #[(.ref b), (.int (0 : Int32)), (.ref d), (.int (0 : Int32)), (.int (3 : Int32))] 7))
  refine own_bk (S' := (s₁.setTop (mkF m 0 #[rv b, iv (0 : Int32), rv d, iv (0 : Int32), iv (3 : Int32), .unset, .unset] []))) (fun t_ kont => castTop (ef_rmC531 m (b) ((0 : Int32)) (d) ((0 : Int32)) ((3 : Int32))) kont) ?_
  refine own_bk (S' := (s₁.setTop (mkF m 1 #[rv b, iv (0 : Int32), rv d, iv (0 : Int32), iv (3 : Int32), .unset, .unset] [(.int (0 : Int32))]))) (fun t_ kont => XS.iconst X0.here hx rfl (hb hby d15_0) kont) ?_
  refine own_bk (S' := (s₁.setTop (mkF m 3 #[rv b, iv (0 : Int32), rv d, iv (0 : Int32), iv (3 : Int32), iv (0 : Int32), .unset] []))) (fun t_ kont => XS.istore X0.here hx rfl (hb hby d15_1) rfl (l' := #[rv b, iv (0 : Int32), rv d, iv (0 : Int32), iv (3 : Int32), iv (0 : Int32), .unset]) rfl kont) ?_
  refine own_bk (S' := (s₁.setTop (mkF m 5 #[rv b, iv (0 : Int32), rv d, iv (0 : Int32), iv (3 : Int32), iv (0 : Int32), .unset] [(.int (0 : Int32))]))) (fun t_ kont => XS.iload X0.here hx rfl (hb hby d15_3) rfl kont) ?_
  refine own_bk (S' := (s₁.setTop (mkF m 7 #[rv b, iv (0 : Int32), rv d, iv (0 : Int32), iv (3 : Int32), iv (0 : Int32), .unset] [(.int (3 : Int32)), (.int (0 : Int32))]))) (fun t_ kont => XS.iload X0.here hx rfl (hb hby d15_5) rfl kont) ?_
  refine own_bk (S' := (s₁.setTop (mkF m 10 #[rv b, iv (0 : Int32), rv d, iv (0 : Int32), iv (3 : Int32), iv (0 : Int32), .unset] []))) (fun t_ kont => XS.icmpNo X0.here hx rfl (hb hby d15_7) rfl (tlt (by decide : ((0 : Int32)) < ((3 : Int32)))).2.1 kont) ?_
  refine own_bk (S' := (s₁.setTop (mkF m 11 #[rv b, iv (0 : Int32), rv d, iv (0 : Int32), iv (3 : Int32), iv (0 : Int32), .unset] [(.ref b)]))) (fun t_ kont => XS.aloadN X0.here hx rfl (hb hby d15_10) rfl rfl kont) ?_
  refine own_bk (S' := (s₁.setTop (mkF m 12 #[rv b, iv (0 : Int32), rv d, iv (0 : Int32), iv (3 : Int32), iv (0 : Int32), .unset] [(.int (0 : Int32)), (.ref b)]))) (fun t_ kont => XS.iloadN X0.here hx rfl (hb hby d15_11) rfl kont) ?_
  obtain ⟨c1, A2, q3, S4, M5, H6, U7⟩ := id VB
  have hin8 := inb_of (j := (0 : Int32)) S4 ⟨(by decide : ¬ ((0 : Int32) < (0 : Int32))), (by decide : (0 : Int32) < (3 : Int32))⟩
  refine own_bk (S' := (s₁.setTop (mkF m 13 #[rv b, iv (0 : Int32), rv d, iv (0 : Int32), iv (3 : Int32), iv (0 : Int32), .unset] [(.int q0)]))) (fun t_ kont => X0.caload hx (j := (0 : Int32)) (v := (.int q0)) (by rw [show s₁.heap = h0 from e0]; exact A2.1) (State.isArrayOf_alike hZ.alike A2.2.1) A2.2.2 hin8 (Has.at H6 hin8 rfl) (g := (mkF m 12 #[rv b, iv (0 : Int32), rv d, iv (0 : Int32), iv (3 : Int32), iv (0 : Int32), .unset] [(.int (0 : Int32)), (.ref b)])) rfl rfl (hb hby d15_12) _ kont) ?_
  refine own_bk (S' := (s₁.setTop (mkF m 15 #[rv b, iv (0 : Int32), rv d, iv (0 : Int32), iv (3 : Int32), iv (0 : Int32), iv q0] []))) (fun t_ kont => XS.istore X0.here hx rfl (hb hby d15_13) rfl (l' := #[rv b, iv (0 : Int32), rv d, iv (0 : Int32), iv (3 : Int32), iv (0 : Int32), iv q0]) rfl kont) ?_
  refine own_bk (S' := (s₁.setTop (mkF m 17 #[rv b, iv (0 : Int32), rv d, iv (0 : Int32), iv (3 : Int32), iv (0 : Int32), iv q0] [(.int q0)]))) (fun t_ kont => XS.iload X0.here hx rfl (hb hby d15_15) rfl kont) ?_
  refine own_bk (S' := (s₁.setTop (mkF m 20 #[rv b, iv (0 : Int32), rv d, iv (0 : Int32), iv (3 : Int32), iv (0 : Int32), iv q0] [(.int (255 : Int32)), (.int q0)]))) (fun t_ kont => XS.sipush X0.here hx rfl (hb hby d15_17) kont) ?_
  refine own_bk (S' := (s₁.setTop (mkF m 26 #[rv b, iv (0 : Int32), rv d, iv (0 : Int32), iv (3 : Int32), iv (0 : Int32), iv q0] []))) (fun t_ kont => XS.icmpYes X0.here hx rfl (pc0 := 20) (pc' := 26) rfl (hb hby d15_20) rfl (flt (gq0)).2.2.2 (by decide) (by decide) kont) ?_
  refine own_bk (S' := (s₁.setTop (mkF m 27 #[rv b, iv (0 : Int32), rv d, iv (0 : Int32), iv (3 : Int32), iv (0 : Int32), iv q0] [(.ref d)]))) (fun t_ kont => XS.aloadN X0.here hx rfl (hb hby d15_26) rfl rfl kont) ?_
  refine own_bk (S' := (s₁.setTop (mkF m 28 #[rv b, iv (0 : Int32), rv d, iv (0 : Int32), iv (3 : Int32), iv (0 : Int32), iv q0] [(.int (0 : Int32)), (.ref d)]))) (fun t_ kont => XS.iloadN X0.here hx rfl (hb hby d15_27) rfl kont) ?_
  refine own_bk (S' := (s₁.setTop (mkF m 30 #[rv b, iv (0 : Int32), rv d, iv (0 : Int32), iv (3 : Int32), iv (0 : Int32), iv q0] [(.int q0), (.int (0 : Int32)), (.ref d)]))) (fun t_ kont => XS.iload X0.here hx rfl (hb hby d15_28) rfl kont) ?_
  refine own_bk (S' := (s₁.setTop (mkF m 31 #[rv b, iv (0 : Int32), rv d, iv (0 : Int32), iv (3 : Int32), iv (0 : Int32), iv q0] [(.int (q0.toInt8.toInt32)), (.int (0 : Int32)), (.ref d)]))) (fun t_ kont => XS.i2b X0.here hx rfl (hb hby d15_30) rfl kont) ?_
  obtain ⟨c9, A10, q11, S12, M13, H14, U15⟩ := id VD
  obtain ⟨T16, h17, X18, e19, W20, st21⟩ := stB X0 hx hZ e0 A10 (j := (0 : Int32)) (inb_of S12 ⟨(by decide : ¬ ((0 : Int32) < (0 : Int32))), (by decide : (0 : Int32) < (3 : Int32))⟩) (g := (mkF m 31 #[rv b, iv (0 : Int32), rv d, iv (0 : Int32), iv (3 : Int32), iv (0 : Int32), iv q0] [(.int (q0.toInt8.toInt32)), (.int (0 : Int32)), (.ref d)])) rfl rfl (hb hby d15_31)
  have N22 := Fr.snoc X18 N0 ag
  have V23 := (VB.other W20 nbd)
  have Z24 := Nat.le_trans Z0 (Keep.of_wr W20).1
  have O25 := O.wr W20 ag
  have K26 := (Keep.refl h0 [d]).wr W20 (Or.inl (List.mem_of_getElem? (i := 0) rfl))
  have V27 : Arv Z h17 d kd .byte (3 : Int32) [(.int (nar .byte (q0.toInt8.toInt32))), (.int (0 : Int32)), (.int (0 : Int32))] (.int (0 : Int32)) := (Arv.set A10 q11 S12 M13 H14 U15 (fits_nar_byte _) W20 0 rfl (Nat.le_of_ble_eq_true rfl))
  refine own_bk (S' := (T16.setTop (mkF m 32 #[rv b, iv (0 : Int32), rv d, iv (0 : Int32), iv (3 : Int32), iv (0 : Int32), iv q0] []))) st21 ?_
  refine own_bk (S' := (T16.setTop (mkF m 35 #[rv b, iv (1 : Int32), rv d, iv (0 : Int32), iv (3 : Int32), iv (0 : Int32), iv q0] []))) (fun t_ kont => XS.iinc X18.here hx rfl (hb hby d15_32) rfl (l' := #[rv b, iv (1 : Int32), rv d, iv (0 : Int32), iv (3 : Int32), iv (0 : Int32), iv q0]) rfl kont) ?_
  refine own_bk (S' := (T16.setTop (mkF m 38 #[rv b, iv (1 : Int32), rv d, iv (1 : Int32), iv (3 : Int32), iv (0 : Int32), iv q0] []))) (fun t_ kont => XS.iinc X18.here hx rfl (hb hby d15_35) rfl (l' := #[rv b, iv (1 : Int32), rv d, iv (1 : Int32), iv (3 : Int32), iv (0 : Int32), iv q0]) rfl kont) ?_
  refine own_bk (S' := (T16.setTop (mkF m 41 #[rv b, iv (1 : Int32), rv d, iv (1 : Int32), iv (3 : Int32), iv (1 : Int32), iv q0] []))) (fun t_ kont => XS.iinc X18.here hx rfl (hb hby d15_38) rfl (l' := #[rv b, iv (1 : Int32), rv d, iv (1 : Int32), iv (3 : Int32), iv (1 : Int32), iv q0]) rfl kont) ?_
  refine own_bk (S' := (T16.setTop (mkF m 3 #[rv b, iv (1 : Int32), rv d, iv (1 : Int32), iv (3 : Int32), iv (1 : Int32), iv q0] []))) (fun t_ kont => XS.goto X18.here hx rfl (pc0 := 41) (pc' := 3) rfl (hb hby d15_41) (by decide) (by decide) kont) ?_
  refine own_bk (S' := (T16.setTop (mkF m 5 #[rv b, iv (1 : Int32), rv d, iv (1 : Int32), iv (3 : Int32), iv (1 : Int32), iv q0] [(.int (1 : Int32))]))) (fun t_ kont => XS.iload X18.here hx rfl (hb hby d15_3) rfl kont) ?_
  refine own_bk (S' := (T16.setTop (mkF m 7 #[rv b, iv (1 : Int32), rv d, iv (1 : Int32), iv (3 : Int32), iv (1 : Int32), iv q0] [(.int (3 : Int32)), (.int (1 : Int32))]))) (fun t_ kont => XS.iload X18.here hx rfl (hb hby d15_5) rfl kont) ?_
  refine own_bk (S' := (T16.setTop (mkF m 10 #[rv b, iv (1 : Int32), rv d, iv (1 : Int32), iv (3 : Int32), iv (1 : Int32), iv q0] []))) (fun t_ kont => XS.icmpNo X18.here hx rfl (hb hby d15_7) rfl (tlt (by decide : ((1 : Int32)) < ((3 : Int32)))).2.1 kont) ?_
  refine own_bk (S' := (T16.setTop (mkF m 11 #[rv b, iv (1 : Int32), rv d, iv (1 : Int32), iv (3 : Int32), iv (1 : Int32), iv q0] [(.ref b)]))) (fun t_ kont => XS.aloadN X18.here hx rfl (hb hby d15_10) rfl rfl kont) ?_
  refine own_bk (S' := (T16.setTop (mkF m 12 #[rv b, iv (1 : Int32), rv d, iv (1 : Int32), iv (3 : Int32), iv (1 : Int32), iv q0] [(.int (1 : Int32)), (.ref b)]))) (fun t_ kont => XS.iloadN X18.here hx rfl (hb hby d15_11) rfl kont) ?_
  obtain ⟨c28, A29, q30, S31, M32, H33, U34⟩ := id V23
  have hin35 := inb_of (j := (1 : Int32)) S31 ⟨(by decide : ¬ ((1 : Int32) < (0 : Int32))), (by decide : (1 : Int32) < (3 : Int32))⟩
  refine own_bk (S' := (T16.setTop (mkF m 13 #[rv b, iv (1 : Int32), rv d, iv (1 : Int32), iv (3 : Int32), iv (1 : Int32), iv q0] [(.int q1)]))) (fun t_ kont => X18.caload hx (j := (1 : Int32)) (v := (.int q1)) (by rw [show T16.heap = h17 from e19]; exact A29.1) (State.isArrayOf_alike hZ.alike A29.2.1) A29.2.2 hin35 (Has.at H33 hin35 rfl) (g := (mkF m 12 #[rv b, iv (1 : Int32), rv d, iv (1 : Int32), iv (3 : Int32), iv (1 : Int32), iv q0] [(.int (1 : Int32)), (.ref b)])) rfl rfl (hb hby d15_12) _ kont) ?_
  refine own_bk (S' := (T16.setTop (mkF m 15 #[rv b, iv (1 : Int32), rv d, iv (1 : Int32), iv (3 : Int32), iv (1 : Int32), iv q1] []))) (fun t_ kont => XS.istore X18.here hx rfl (hb hby d15_13) rfl (l' := #[rv b, iv (1 : Int32), rv d, iv (1 : Int32), iv (3 : Int32), iv (1 : Int32), iv q1]) rfl kont) ?_
  refine own_bk (S' := (T16.setTop (mkF m 17 #[rv b, iv (1 : Int32), rv d, iv (1 : Int32), iv (3 : Int32), iv (1 : Int32), iv q1] [(.int q1)]))) (fun t_ kont => XS.iload X18.here hx rfl (hb hby d15_15) rfl kont) ?_
  refine own_bk (S' := (T16.setTop (mkF m 20 #[rv b, iv (1 : Int32), rv d, iv (1 : Int32), iv (3 : Int32), iv (1 : Int32), iv q1] [(.int (255 : Int32)), (.int q1)]))) (fun t_ kont => XS.sipush X18.here hx rfl (hb hby d15_17) kont) ?_
  refine own_bk (S' := (T16.setTop (mkF m 23 #[rv b, iv (1 : Int32), rv d, iv (1 : Int32), iv (3 : Int32), iv (1 : Int32), iv q1] []))) (fun t_ kont => XS.icmpNo X18.here hx rfl (hb hby d15_20) rfl (tlt (gq1)).2.2.2 kont) ?_
  refine own_bk (S' := (T16.setTop (mkF m 25 #[rv b, iv (1 : Int32), rv d, iv (1 : Int32), iv (3 : Int32), iv (1 : Int32), iv q1] [(.int (1 : Int32))]))) (fun t_ kont => XS.iload X18.here hx rfl (hb hby d15_23) rfl kont) ?_
  exact own_retI X18 hx hlk Bd.returns (hb hby d15_25) (by rw [e19]; exact ⟨rfl, N22, O25, K26, _, V27⟩) (by decide) (by decide)
theorem ef_rmC532 (m : MethodId) (x0 : Addr) (x1 : Int32) (x2 : Addr) (x3 : Int32) (x4 : Int32) : entryFrame m #[(.ref x0), (.int x1), (.ref x2), (.int x3), (.int x4)] 7 = mkF m 0 #[.val (.ref x0), .val (.int x1), .val (.ref x2), .val (.int x3), .val (.int x4), .unset, .unset] [] := by first | (simp [entryFrame, mkF, argsToLocals, Value.category, maxLocals]; done) | rfl
def Q_rmC532 (Z : State) (b d : Addr) (kb kd : ClassId) (q0 q1 q2 : Int32) (h0 : Heap) (n0 : Nat) (v : Option Value) (h : Heap) (L : List Loc) : Prop := v = some (.int 2) ∧ Fr n0 L ∧ Old Z n0 h ∧ Keep h0 h [d] ∧ ∃ vs, Arv Z h d kd .byte (3 : Int32) vs (.int (0 : Int32))
set_option maxRecDepth 65536 in
set_option maxHeartbeats 40000000 in
theorem rmC532 (l : Launch) (Z : State) (a0 : Array Value) (hw : ∀ d ∈ tables_1, d.before a0 Z = true) (ws : List Jvm.Cond) (b d : Addr) (kb kd : ClassId) (q0 q1 q2 : Int32) (h0 : Heap) (n0 : Nat) (Z0 : n0 ≤ h0.size) (O : Old Z n0 h0) (VB : Arv Z h0 b kb .char (3 : Int32) [(.int q0), (.int q1), (.int q2)] (.int (0 : Int32))) (VD : Arv Z h0 d kd .byte (3 : Int32) [(.int (0 : Int32)), (.int (0 : Int32)), (.int (0 : Int32))] (.int (0 : Int32))) (nbd : b ≠ d) (ag : n0 ≤ d) (gq0 : ¬ (255 : Int32) < q0) (gq1 : ¬ (255 : Int32) < q1) (gq2 : (255 : Int32) < q2) :
    MetFree l (⟨"java/lang/StringUTF16", "compress", "([CI[BII)I"⟩ : MethodName) (head1 (Jvm.Cond.code (⟨"java/lang/StringUTF16", "compress", "([CI[BII)I"⟩ : MethodName) jdk_52_method_21_code 7 (some .int) :: ws) ({ frames := 0, cells := 0, slots := 0, locals := 0 } : Room)) (fun as_ U_ => as_ = #[(.ref b), (.int (0 : Int32)), (.ref d), (.int (0 : Int32)), (.int (3 : Int32))] ∧ Z.Warmed39 U_.vm ∧ U_.heap = h0) (fun _ _ _ _ _ => True) (fun _ U_ o_ U2_ => ∃ v_ L_, o_ = .returned v_ ∧ (Q_rmC532 Z b d kb kd q0 q1 q2 h0 n0) v_ U2_.heap L_ ∧ FrameEnd U_ o_ U2_ L_ ({ frames := 0, cells := 0, slots := 0, locals := 0 } : Room).cells ({ frames := 0, cells := 0, slots := 0, locals := 0 } : Room).slots) := by
  refine MetFree.of_bodySF (plainFor_of_name (by first | (simp [plainName, overriddenIn]; done) | decide +kernel : plainName "java/lang/StringUTF16" = true)) hisR ?_
  intro p e s m args below meth c s₁ Bd hml0 hP hK
  obtain ⟨rfl, hZ, hh⟩ := hP
  have hx := Bd.exec
  have hby := Bd.bytes
  have hlk := Bd.notSynchronized
  have hml : c.maxLocals = 7 := hml0
  have hown : s.vm.findClass "java/lang/StringUTF16" = some m.cls := findClass_of_methodNamed Bd.named
  have hnm := (name_of_methodNamed Bd.named Bd.method).1
  have X0 : Stand p l e ({ frames := 0, cells := 0, slots := 0, locals := 0 } : Room) s m #[(.ref b), (.int (0 : Int32)), (.ref d), (.int (0 : Int32)), (.int (3 : Int32))] below meth c s₁ [] 0 0 := Stand.of_body Bd
  have e0 : s₁.heap = h0 := by rw [← hh, Bd.state]; rfl
  have N0 := Fr.nil n0
  show own_Go p e below (own_R s below (Q_rmC532 Z b d kb kd q0 q1 q2 h0 n0) ({ frames := 0, cells := 0, slots := 0, locals := 0 } : Room).cells ({ frames := 0, cells := 0, slots := 0, locals := 0 } : Room).slots) (s₁.setTop (entryFrame m #[(.ref b), (.int (0 : Int32)), (.ref d), (.int (0 : Int32)), (.int (3 : Int32))] 7))
  refine own_bk (S' := (s₁.setTop (mkF m 0 #[rv b, iv (0 : Int32), rv d, iv (0 : Int32), iv (3 : Int32), .unset, .unset] []))) (fun t_ kont => castTop (ef_rmC532 m (b) ((0 : Int32)) (d) ((0 : Int32)) ((3 : Int32))) kont) ?_
  refine own_bk (S' := (s₁.setTop (mkF m 1 #[rv b, iv (0 : Int32), rv d, iv (0 : Int32), iv (3 : Int32), .unset, .unset] [(.int (0 : Int32))]))) (fun t_ kont => XS.iconst X0.here hx rfl (hb hby d15_0) kont) ?_
  refine own_bk (S' := (s₁.setTop (mkF m 3 #[rv b, iv (0 : Int32), rv d, iv (0 : Int32), iv (3 : Int32), iv (0 : Int32), .unset] []))) (fun t_ kont => XS.istore X0.here hx rfl (hb hby d15_1) rfl (l' := #[rv b, iv (0 : Int32), rv d, iv (0 : Int32), iv (3 : Int32), iv (0 : Int32), .unset]) rfl kont) ?_
  refine own_bk (S' := (s₁.setTop (mkF m 5 #[rv b, iv (0 : Int32), rv d, iv (0 : Int32), iv (3 : Int32), iv (0 : Int32), .unset] [(.int (0 : Int32))]))) (fun t_ kont => XS.iload X0.here hx rfl (hb hby d15_3) rfl kont) ?_
  refine own_bk (S' := (s₁.setTop (mkF m 7 #[rv b, iv (0 : Int32), rv d, iv (0 : Int32), iv (3 : Int32), iv (0 : Int32), .unset] [(.int (3 : Int32)), (.int (0 : Int32))]))) (fun t_ kont => XS.iload X0.here hx rfl (hb hby d15_5) rfl kont) ?_
  refine own_bk (S' := (s₁.setTop (mkF m 10 #[rv b, iv (0 : Int32), rv d, iv (0 : Int32), iv (3 : Int32), iv (0 : Int32), .unset] []))) (fun t_ kont => XS.icmpNo X0.here hx rfl (hb hby d15_7) rfl (tlt (by decide : ((0 : Int32)) < ((3 : Int32)))).2.1 kont) ?_
  refine own_bk (S' := (s₁.setTop (mkF m 11 #[rv b, iv (0 : Int32), rv d, iv (0 : Int32), iv (3 : Int32), iv (0 : Int32), .unset] [(.ref b)]))) (fun t_ kont => XS.aloadN X0.here hx rfl (hb hby d15_10) rfl rfl kont) ?_
  refine own_bk (S' := (s₁.setTop (mkF m 12 #[rv b, iv (0 : Int32), rv d, iv (0 : Int32), iv (3 : Int32), iv (0 : Int32), .unset] [(.int (0 : Int32)), (.ref b)]))) (fun t_ kont => XS.iloadN X0.here hx rfl (hb hby d15_11) rfl kont) ?_
  obtain ⟨c1, A2, q3, S4, M5, H6, U7⟩ := id VB
  have hin8 := inb_of (j := (0 : Int32)) S4 ⟨(by decide : ¬ ((0 : Int32) < (0 : Int32))), (by decide : (0 : Int32) < (3 : Int32))⟩
  refine own_bk (S' := (s₁.setTop (mkF m 13 #[rv b, iv (0 : Int32), rv d, iv (0 : Int32), iv (3 : Int32), iv (0 : Int32), .unset] [(.int q0)]))) (fun t_ kont => X0.caload hx (j := (0 : Int32)) (v := (.int q0)) (by rw [show s₁.heap = h0 from e0]; exact A2.1) (State.isArrayOf_alike hZ.alike A2.2.1) A2.2.2 hin8 (Has.at H6 hin8 rfl) (g := (mkF m 12 #[rv b, iv (0 : Int32), rv d, iv (0 : Int32), iv (3 : Int32), iv (0 : Int32), .unset] [(.int (0 : Int32)), (.ref b)])) rfl rfl (hb hby d15_12) _ kont) ?_
  refine own_bk (S' := (s₁.setTop (mkF m 15 #[rv b, iv (0 : Int32), rv d, iv (0 : Int32), iv (3 : Int32), iv (0 : Int32), iv q0] []))) (fun t_ kont => XS.istore X0.here hx rfl (hb hby d15_13) rfl (l' := #[rv b, iv (0 : Int32), rv d, iv (0 : Int32), iv (3 : Int32), iv (0 : Int32), iv q0]) rfl kont) ?_
  refine own_bk (S' := (s₁.setTop (mkF m 17 #[rv b, iv (0 : Int32), rv d, iv (0 : Int32), iv (3 : Int32), iv (0 : Int32), iv q0] [(.int q0)]))) (fun t_ kont => XS.iload X0.here hx rfl (hb hby d15_15) rfl kont) ?_
  refine own_bk (S' := (s₁.setTop (mkF m 20 #[rv b, iv (0 : Int32), rv d, iv (0 : Int32), iv (3 : Int32), iv (0 : Int32), iv q0] [(.int (255 : Int32)), (.int q0)]))) (fun t_ kont => XS.sipush X0.here hx rfl (hb hby d15_17) kont) ?_
  refine own_bk (S' := (s₁.setTop (mkF m 26 #[rv b, iv (0 : Int32), rv d, iv (0 : Int32), iv (3 : Int32), iv (0 : Int32), iv q0] []))) (fun t_ kont => XS.icmpYes X0.here hx rfl (pc0 := 20) (pc' := 26) rfl (hb hby d15_20) rfl (flt (gq0)).2.2.2 (by decide) (by decide) kont) ?_
  refine own_bk (S' := (s₁.setTop (mkF m 27 #[rv b, iv (0 : Int32), rv d, iv (0 : Int32), iv (3 : Int32), iv (0 : Int32), iv q0] [(.ref d)]))) (fun t_ kont => XS.aloadN X0.here hx rfl (hb hby d15_26) rfl rfl kont) ?_
  refine own_bk (S' := (s₁.setTop (mkF m 28 #[rv b, iv (0 : Int32), rv d, iv (0 : Int32), iv (3 : Int32), iv (0 : Int32), iv q0] [(.int (0 : Int32)), (.ref d)]))) (fun t_ kont => XS.iloadN X0.here hx rfl (hb hby d15_27) rfl kont) ?_
  refine own_bk (S' := (s₁.setTop (mkF m 30 #[rv b, iv (0 : Int32), rv d, iv (0 : Int32), iv (3 : Int32), iv (0 : Int32), iv q0] [(.int q0), (.int (0 : Int32)), (.ref d)]))) (fun t_ kont => XS.iload X0.here hx rfl (hb hby d15_28) rfl kont) ?_
  refine own_bk (S' := (s₁.setTop (mkF m 31 #[rv b, iv (0 : Int32), rv d, iv (0 : Int32), iv (3 : Int32), iv (0 : Int32), iv q0] [(.int (q0.toInt8.toInt32)), (.int (0 : Int32)), (.ref d)]))) (fun t_ kont => XS.i2b X0.here hx rfl (hb hby d15_30) rfl kont) ?_
  obtain ⟨c9, A10, q11, S12, M13, H14, U15⟩ := id VD
  obtain ⟨T16, h17, X18, e19, W20, st21⟩ := stB X0 hx hZ e0 A10 (j := (0 : Int32)) (inb_of S12 ⟨(by decide : ¬ ((0 : Int32) < (0 : Int32))), (by decide : (0 : Int32) < (3 : Int32))⟩) (g := (mkF m 31 #[rv b, iv (0 : Int32), rv d, iv (0 : Int32), iv (3 : Int32), iv (0 : Int32), iv q0] [(.int (q0.toInt8.toInt32)), (.int (0 : Int32)), (.ref d)])) rfl rfl (hb hby d15_31)
  have N22 := Fr.snoc X18 N0 ag
  have V23 := (VB.other W20 nbd)
  have Z24 := Nat.le_trans Z0 (Keep.of_wr W20).1
  have O25 := O.wr W20 ag
  have K26 := (Keep.refl h0 [d]).wr W20 (Or.inl (List.mem_of_getElem? (i := 0) rfl))
  have V27 : Arv Z h17 d kd .byte (3 : Int32) [(.int (nar .byte (q0.toInt8.toInt32))), (.int (0 : Int32)), (.int (0 : Int32))] (.int (0 : Int32)) := (Arv.set A10 q11 S12 M13 H14 U15 (fits_nar_byte _) W20 0 rfl (Nat.le_of_ble_eq_true rfl))
  refine own_bk (S' := (T16.setTop (mkF m 32 #[rv b, iv (0 : Int32), rv d, iv (0 : Int32), iv (3 : Int32), iv (0 : Int32), iv q0] []))) st21 ?_
  refine own_bk (S' := (T16.setTop (mkF m 35 #[rv b, iv (1 : Int32), rv d, iv (0 : Int32), iv (3 : Int32), iv (0 : Int32), iv q0] []))) (fun t_ kont => XS.iinc X18.here hx rfl (hb hby d15_32) rfl (l' := #[rv b, iv (1 : Int32), rv d, iv (0 : Int32), iv (3 : Int32), iv (0 : Int32), iv q0]) rfl kont) ?_
  refine own_bk (S' := (T16.setTop (mkF m 38 #[rv b, iv (1 : Int32), rv d, iv (1 : Int32), iv (3 : Int32), iv (0 : Int32), iv q0] []))) (fun t_ kont => XS.iinc X18.here hx rfl (hb hby d15_35) rfl (l' := #[rv b, iv (1 : Int32), rv d, iv (1 : Int32), iv (3 : Int32), iv (0 : Int32), iv q0]) rfl kont) ?_
  refine own_bk (S' := (T16.setTop (mkF m 41 #[rv b, iv (1 : Int32), rv d, iv (1 : Int32), iv (3 : Int32), iv (1 : Int32), iv q0] []))) (fun t_ kont => XS.iinc X18.here hx rfl (hb hby d15_38) rfl (l' := #[rv b, iv (1 : Int32), rv d, iv (1 : Int32), iv (3 : Int32), iv (1 : Int32), iv q0]) rfl kont) ?_
  refine own_bk (S' := (T16.setTop (mkF m 3 #[rv b, iv (1 : Int32), rv d, iv (1 : Int32), iv (3 : Int32), iv (1 : Int32), iv q0] []))) (fun t_ kont => XS.goto X18.here hx rfl (pc0 := 41) (pc' := 3) rfl (hb hby d15_41) (by decide) (by decide) kont) ?_
  refine own_bk (S' := (T16.setTop (mkF m 5 #[rv b, iv (1 : Int32), rv d, iv (1 : Int32), iv (3 : Int32), iv (1 : Int32), iv q0] [(.int (1 : Int32))]))) (fun t_ kont => XS.iload X18.here hx rfl (hb hby d15_3) rfl kont) ?_
  refine own_bk (S' := (T16.setTop (mkF m 7 #[rv b, iv (1 : Int32), rv d, iv (1 : Int32), iv (3 : Int32), iv (1 : Int32), iv q0] [(.int (3 : Int32)), (.int (1 : Int32))]))) (fun t_ kont => XS.iload X18.here hx rfl (hb hby d15_5) rfl kont) ?_
  refine own_bk (S' := (T16.setTop (mkF m 10 #[rv b, iv (1 : Int32), rv d, iv (1 : Int32), iv (3 : Int32), iv (1 : Int32), iv q0] []))) (fun t_ kont => XS.icmpNo X18.here hx rfl (hb hby d15_7) rfl (tlt (by decide : ((1 : Int32)) < ((3 : Int32)))).2.1 kont) ?_
  refine own_bk (S' := (T16.setTop (mkF m 11 #[rv b, iv (1 : Int32), rv d, iv (1 : Int32), iv (3 : Int32), iv (1 : Int32), iv q0] [(.ref b)]))) (fun t_ kont => XS.aloadN X18.here hx rfl (hb hby d15_10) rfl rfl kont) ?_
  refine own_bk (S' := (T16.setTop (mkF m 12 #[rv b, iv (1 : Int32), rv d, iv (1 : Int32), iv (3 : Int32), iv (1 : Int32), iv q0] [(.int (1 : Int32)), (.ref b)]))) (fun t_ kont => XS.iloadN X18.here hx rfl (hb hby d15_11) rfl kont) ?_
  obtain ⟨c28, A29, q30, S31, M32, H33, U34⟩ := id V23
  have hin35 := inb_of (j := (1 : Int32)) S31 ⟨(by decide : ¬ ((1 : Int32) < (0 : Int32))), (by decide : (1 : Int32) < (3 : Int32))⟩
  refine own_bk (S' := (T16.setTop (mkF m 13 #[rv b, iv (1 : Int32), rv d, iv (1 : Int32), iv (3 : Int32), iv (1 : Int32), iv q0] [(.int q1)]))) (fun t_ kont => X18.caload hx (j := (1 : Int32)) (v := (.int q1)) (by rw [show T16.heap = h17 from e19]; exact A29.1) (State.isArrayOf_alike hZ.alike A29.2.1) A29.2.2 hin35 (Has.at H33 hin35 rfl) (g := (mkF m 12 #[rv b, iv (1 : Int32), rv d, iv (1 : Int32), iv (3 : Int32), iv (1 : Int32), iv q0] [(.int (1 : Int32)), (.ref b)])) rfl rfl (hb hby d15_12) _ kont) ?_
  refine own_bk (S' := (T16.setTop (mkF m 15 #[rv b, iv (1 : Int32), rv d, iv (1 : Int32), iv (3 : Int32), iv (1 : Int32), iv q1] []))) (fun t_ kont => XS.istore X18.here hx rfl (hb hby d15_13) rfl (l' := #[rv b, iv (1 : Int32), rv d, iv (1 : Int32), iv (3 : Int32), iv (1 : Int32), iv q1]) rfl kont) ?_
  refine own_bk (S' := (T16.setTop (mkF m 17 #[rv b, iv (1 : Int32), rv d, iv (1 : Int32), iv (3 : Int32), iv (1 : Int32), iv q1] [(.int q1)]))) (fun t_ kont => XS.iload X18.here hx rfl (hb hby d15_15) rfl kont) ?_
  refine own_bk (S' := (T16.setTop (mkF m 20 #[rv b, iv (1 : Int32), rv d, iv (1 : Int32), iv (3 : Int32), iv (1 : Int32), iv q1] [(.int (255 : Int32)), (.int q1)]))) (fun t_ kont => XS.sipush X18.here hx rfl (hb hby d15_17) kont) ?_
  refine own_bk (S' := (T16.setTop (mkF m 26 #[rv b, iv (1 : Int32), rv d, iv (1 : Int32), iv (3 : Int32), iv (1 : Int32), iv q1] []))) (fun t_ kont => XS.icmpYes X18.here hx rfl (pc0 := 20) (pc' := 26) rfl (hb hby d15_20) rfl (flt (gq1)).2.2.2 (by decide) (by decide) kont) ?_
  refine own_bk (S' := (T16.setTop (mkF m 27 #[rv b, iv (1 : Int32), rv d, iv (1 : Int32), iv (3 : Int32), iv (1 : Int32), iv q1] [(.ref d)]))) (fun t_ kont => XS.aloadN X18.here hx rfl (hb hby d15_26) rfl rfl kont) ?_
  refine own_bk (S' := (T16.setTop (mkF m 28 #[rv b, iv (1 : Int32), rv d, iv (1 : Int32), iv (3 : Int32), iv (1 : Int32), iv q1] [(.int (1 : Int32)), (.ref d)]))) (fun t_ kont => XS.iloadN X18.here hx rfl (hb hby d15_27) rfl kont) ?_
  refine own_bk (S' := (T16.setTop (mkF m 30 #[rv b, iv (1 : Int32), rv d, iv (1 : Int32), iv (3 : Int32), iv (1 : Int32), iv q1] [(.int q1), (.int (1 : Int32)), (.ref d)]))) (fun t_ kont => XS.iload X18.here hx rfl (hb hby d15_28) rfl kont) ?_
  refine own_bk (S' := (T16.setTop (mkF m 31 #[rv b, iv (1 : Int32), rv d, iv (1 : Int32), iv (3 : Int32), iv (1 : Int32), iv q1] [(.int (q1.toInt8.toInt32)), (.int (1 : Int32)), (.ref d)]))) (fun t_ kont => XS.i2b X18.here hx rfl (hb hby d15_30) rfl kont) ?_
  obtain ⟨c36, A37, q38, S39, M40, H41, U42⟩ := id V27
  obtain ⟨T43, h44, X45, e46, W47, st48⟩ := stB X18 hx hZ e19 A37 (j := (1 : Int32)) (inb_of S39 ⟨(by decide : ¬ ((1 : Int32) < (0 : Int32))), (by decide : (1 : Int32) < (3 : Int32))⟩) (g := (mkF m 31 #[rv b, iv (1 : Int32), rv d, iv (1 : Int32), iv (3 : Int32), iv (1 : Int32), iv q1] [(.int (q1.toInt8.toInt32)), (.int (1 : Int32)), (.ref d)])) rfl rfl (hb hby d15_31)
  have N49 := Fr.snoc X45 N22 ag
  have V50 := (V23.other W47 nbd)
  have Z51 := Nat.le_trans Z24 (Keep.of_wr W47).1
  have O52 := O25.wr W47 ag
  have K53 := K26.wr W47 (Or.inl (List.mem_of_getElem? (i := 0) rfl))
  have V54 : Arv Z h44 d kd .byte (3 : Int32) [(.int (nar .byte (q0.toInt8.toInt32))), (.int (nar .byte (q1.toInt8.toInt32))), (.int (0 : Int32))] (.int (0 : Int32)) := (Arv.set A37 q38 S39 M40 H41 U42 (fits_nar_byte _) W47 1 rfl (Nat.le_of_ble_eq_true rfl))
  refine own_bk (S' := (T43.setTop (mkF m 32 #[rv b, iv (1 : Int32), rv d, iv (1 : Int32), iv (3 : Int32), iv (1 : Int32), iv q1] []))) st48 ?_
  refine own_bk (S' := (T43.setTop (mkF m 35 #[rv b, iv (2 : Int32), rv d, iv (1 : Int32), iv (3 : Int32), iv (1 : Int32), iv q1] []))) (fun t_ kont => XS.iinc X45.here hx rfl (hb hby d15_32) rfl (l' := #[rv b, iv (2 : Int32), rv d, iv (1 : Int32), iv (3 : Int32), iv (1 : Int32), iv q1]) rfl kont) ?_
  refine own_bk (S' := (T43.setTop (mkF m 38 #[rv b, iv (2 : Int32), rv d, iv (2 : Int32), iv (3 : Int32), iv (1 : Int32), iv q1] []))) (fun t_ kont => XS.iinc X45.here hx rfl (hb hby d15_35) rfl (l' := #[rv b, iv (2 : Int32), rv d, iv (2 : Int32), iv (3 : Int32), iv (1 : Int32), iv q1]) rfl kont) ?_
  refine own_bk (S' := (T43.setTop (mkF m 41 #[rv b, iv (2 : Int32), rv d, iv (2 : Int32), iv (3 : Int32), iv (2 : Int32), iv q1] []))) (fun t_ kont => XS.iinc X45.here hx rfl (hb hby d15_38) rfl (l' := #[rv b, iv (2 : Int32), rv d, iv (2 : Int32), iv (3 : Int32), iv (2 : Int32), iv q1]) rfl kont) ?_
  refine own_bk (S' := (T43.setTop (mkF m 3 #[rv b, iv (2 : Int32), rv d, iv (2 : Int32), iv (3 : Int32), iv (2 : Int32), iv q1] []))) (fun t_ kont => XS.goto X45.here hx rfl (pc0 := 41) (pc' := 3) rfl (hb hby d15_41) (by decide) (by decide) kont) ?_
  refine own_bk (S' := (T43.setTop (mkF m 5 #[rv b, iv (2 : Int32), rv d, iv (2 : Int32), iv (3 : Int32), iv (2 : Int32), iv q1] [(.int (2 : Int32))]))) (fun t_ kont => XS.iload X45.here hx rfl (hb hby d15_3) rfl kont) ?_
  refine own_bk (S' := (T43.setTop (mkF m 7 #[rv b, iv (2 : Int32), rv d, iv (2 : Int32), iv (3 : Int32), iv (2 : Int32), iv q1] [(.int (3 : Int32)), (.int (2 : Int32))]))) (fun t_ kont => XS.iload X45.here hx rfl (hb hby d15_5) rfl kont) ?_
  refine own_bk (S' := (T43.setTop (mkF m 10 #[rv b, iv (2 : Int32), rv d, iv (2 : Int32), iv (3 : Int32), iv (2 : Int32), iv q1] []))) (fun t_ kont => XS.icmpNo X45.here hx rfl (hb hby d15_7) rfl (tlt (by decide : ((2 : Int32)) < ((3 : Int32)))).2.1 kont) ?_
  refine own_bk (S' := (T43.setTop (mkF m 11 #[rv b, iv (2 : Int32), rv d, iv (2 : Int32), iv (3 : Int32), iv (2 : Int32), iv q1] [(.ref b)]))) (fun t_ kont => XS.aloadN X45.here hx rfl (hb hby d15_10) rfl rfl kont) ?_
  refine own_bk (S' := (T43.setTop (mkF m 12 #[rv b, iv (2 : Int32), rv d, iv (2 : Int32), iv (3 : Int32), iv (2 : Int32), iv q1] [(.int (2 : Int32)), (.ref b)]))) (fun t_ kont => XS.iloadN X45.here hx rfl (hb hby d15_11) rfl kont) ?_
  obtain ⟨c55, A56, q57, S58, M59, H60, U61⟩ := id V50
  have hin62 := inb_of (j := (2 : Int32)) S58 ⟨(by decide : ¬ ((2 : Int32) < (0 : Int32))), (by decide : (2 : Int32) < (3 : Int32))⟩
  refine own_bk (S' := (T43.setTop (mkF m 13 #[rv b, iv (2 : Int32), rv d, iv (2 : Int32), iv (3 : Int32), iv (2 : Int32), iv q1] [(.int q2)]))) (fun t_ kont => X45.caload hx (j := (2 : Int32)) (v := (.int q2)) (by rw [show T43.heap = h44 from e46]; exact A56.1) (State.isArrayOf_alike hZ.alike A56.2.1) A56.2.2 hin62 (Has.at H60 hin62 rfl) (g := (mkF m 12 #[rv b, iv (2 : Int32), rv d, iv (2 : Int32), iv (3 : Int32), iv (2 : Int32), iv q1] [(.int (2 : Int32)), (.ref b)])) rfl rfl (hb hby d15_12) _ kont) ?_
  refine own_bk (S' := (T43.setTop (mkF m 15 #[rv b, iv (2 : Int32), rv d, iv (2 : Int32), iv (3 : Int32), iv (2 : Int32), iv q2] []))) (fun t_ kont => XS.istore X45.here hx rfl (hb hby d15_13) rfl (l' := #[rv b, iv (2 : Int32), rv d, iv (2 : Int32), iv (3 : Int32), iv (2 : Int32), iv q2]) rfl kont) ?_
  refine own_bk (S' := (T43.setTop (mkF m 17 #[rv b, iv (2 : Int32), rv d, iv (2 : Int32), iv (3 : Int32), iv (2 : Int32), iv q2] [(.int q2)]))) (fun t_ kont => XS.iload X45.here hx rfl (hb hby d15_15) rfl kont) ?_
  refine own_bk (S' := (T43.setTop (mkF m 20 #[rv b, iv (2 : Int32), rv d, iv (2 : Int32), iv (3 : Int32), iv (2 : Int32), iv q2] [(.int (255 : Int32)), (.int q2)]))) (fun t_ kont => XS.sipush X45.here hx rfl (hb hby d15_17) kont) ?_
  refine own_bk (S' := (T43.setTop (mkF m 23 #[rv b, iv (2 : Int32), rv d, iv (2 : Int32), iv (3 : Int32), iv (2 : Int32), iv q2] []))) (fun t_ kont => XS.icmpNo X45.here hx rfl (hb hby d15_20) rfl (tlt (gq2)).2.2.2 kont) ?_
  refine own_bk (S' := (T43.setTop (mkF m 25 #[rv b, iv (2 : Int32), rv d, iv (2 : Int32), iv (3 : Int32), iv (2 : Int32), iv q2] [(.int (2 : Int32))]))) (fun t_ kont => XS.iload X45.here hx rfl (hb hby d15_23) rfl kont) ?_
  exact own_retI X45 hx hlk Bd.returns (hb hby d15_25) (by rw [e46]; exact ⟨rfl, N49, O52, K53, _, V54⟩) (by decide) (by decide)
theorem ef_rmC533 (m : MethodId) (x0 : Addr) (x1 : Int32) (x2 : Addr) (x3 : Int32) (x4 : Int32) : entryFrame m #[(.ref x0), (.int x1), (.ref x2), (.int x3), (.int x4)] 7 = mkF m 0 #[.val (.ref x0), .val (.int x1), .val (.ref x2), .val (.int x3), .val (.int x4), .unset, .unset] [] := by first | (simp [entryFrame, mkF, argsToLocals, Value.category, maxLocals]; done) | rfl
def Q_rmC533 (Z : State) (b d : Addr) (kb kd : ClassId) (q0 q1 q2 : Int32) (h0 : Heap) (n0 : Nat) (v : Option Value) (h : Heap) (L : List Loc) : Prop := v = some (.int 3) ∧ Fr n0 L ∧ Old Z n0 h ∧ Keep h0 h [d] ∧ ∃ vs, Arv Z h d kd .byte (3 : Int32) vs (.int (0 : Int32))
set_option maxRecDepth 65536 in
set_option maxHeartbeats 40000000 in
theorem rmC533 (l : Launch) (Z : State) (a0 : Array Value) (hw : ∀ d ∈ tables_1, d.before a0 Z = true) (ws : List Jvm.Cond) (b d : Addr) (kb kd : ClassId) (q0 q1 q2 : Int32) (h0 : Heap) (n0 : Nat) (Z0 : n0 ≤ h0.size) (O : Old Z n0 h0) (VB : Arv Z h0 b kb .char (3 : Int32) [(.int q0), (.int q1), (.int q2)] (.int (0 : Int32))) (VD : Arv Z h0 d kd .byte (3 : Int32) [(.int (0 : Int32)), (.int (0 : Int32)), (.int (0 : Int32))] (.int (0 : Int32))) (nbd : b ≠ d) (ag : n0 ≤ d) (gq0 : ¬ (255 : Int32) < q0) (gq1 : ¬ (255 : Int32) < q1) (gq2 : ¬ (255 : Int32) < q2) :
    MetFree l (⟨"java/lang/StringUTF16", "compress", "([CI[BII)I"⟩ : MethodName) (head1 (Jvm.Cond.code (⟨"java/lang/StringUTF16", "compress", "([CI[BII)I"⟩ : MethodName) jdk_52_method_21_code 7 (some .int) :: ws) ({ frames := 0, cells := 0, slots := 0, locals := 0 } : Room)) (fun as_ U_ => as_ = #[(.ref b), (.int (0 : Int32)), (.ref d), (.int (0 : Int32)), (.int (3 : Int32))] ∧ Z.Warmed39 U_.vm ∧ U_.heap = h0) (fun _ _ _ _ _ => True) (fun _ U_ o_ U2_ => ∃ v_ L_, o_ = .returned v_ ∧ (Q_rmC533 Z b d kb kd q0 q1 q2 h0 n0) v_ U2_.heap L_ ∧ FrameEnd U_ o_ U2_ L_ ({ frames := 0, cells := 0, slots := 0, locals := 0 } : Room).cells ({ frames := 0, cells := 0, slots := 0, locals := 0 } : Room).slots) := by
  refine MetFree.of_bodySF (plainFor_of_name (by first | (simp [plainName, overriddenIn]; done) | decide +kernel : plainName "java/lang/StringUTF16" = true)) hisR ?_
  intro p e s m args below meth c s₁ Bd hml0 hP hK
  obtain ⟨rfl, hZ, hh⟩ := hP
  have hx := Bd.exec
  have hby := Bd.bytes
  have hlk := Bd.notSynchronized
  have hml : c.maxLocals = 7 := hml0
  have hown : s.vm.findClass "java/lang/StringUTF16" = some m.cls := findClass_of_methodNamed Bd.named
  have hnm := (name_of_methodNamed Bd.named Bd.method).1
  have X0 : Stand p l e ({ frames := 0, cells := 0, slots := 0, locals := 0 } : Room) s m #[(.ref b), (.int (0 : Int32)), (.ref d), (.int (0 : Int32)), (.int (3 : Int32))] below meth c s₁ [] 0 0 := Stand.of_body Bd
  have e0 : s₁.heap = h0 := by rw [← hh, Bd.state]; rfl
  have N0 := Fr.nil n0
  show own_Go p e below (own_R s below (Q_rmC533 Z b d kb kd q0 q1 q2 h0 n0) ({ frames := 0, cells := 0, slots := 0, locals := 0 } : Room).cells ({ frames := 0, cells := 0, slots := 0, locals := 0 } : Room).slots) (s₁.setTop (entryFrame m #[(.ref b), (.int (0 : Int32)), (.ref d), (.int (0 : Int32)), (.int (3 : Int32))] 7))
  refine own_bk (S' := (s₁.setTop (mkF m 0 #[rv b, iv (0 : Int32), rv d, iv (0 : Int32), iv (3 : Int32), .unset, .unset] []))) (fun t_ kont => castTop (ef_rmC533 m (b) ((0 : Int32)) (d) ((0 : Int32)) ((3 : Int32))) kont) ?_
  refine own_bk (S' := (s₁.setTop (mkF m 1 #[rv b, iv (0 : Int32), rv d, iv (0 : Int32), iv (3 : Int32), .unset, .unset] [(.int (0 : Int32))]))) (fun t_ kont => XS.iconst X0.here hx rfl (hb hby d15_0) kont) ?_
  refine own_bk (S' := (s₁.setTop (mkF m 3 #[rv b, iv (0 : Int32), rv d, iv (0 : Int32), iv (3 : Int32), iv (0 : Int32), .unset] []))) (fun t_ kont => XS.istore X0.here hx rfl (hb hby d15_1) rfl (l' := #[rv b, iv (0 : Int32), rv d, iv (0 : Int32), iv (3 : Int32), iv (0 : Int32), .unset]) rfl kont) ?_
  refine own_bk (S' := (s₁.setTop (mkF m 5 #[rv b, iv (0 : Int32), rv d, iv (0 : Int32), iv (3 : Int32), iv (0 : Int32), .unset] [(.int (0 : Int32))]))) (fun t_ kont => XS.iload X0.here hx rfl (hb hby d15_3) rfl kont) ?_
  refine own_bk (S' := (s₁.setTop (mkF m 7 #[rv b, iv (0 : Int32), rv d, iv (0 : Int32), iv (3 : Int32), iv (0 : Int32), .unset] [(.int (3 : Int32)), (.int (0 : Int32))]))) (fun t_ kont => XS.iload X0.here hx rfl (hb hby d15_5) rfl kont) ?_
  refine own_bk (S' := (s₁.setTop (mkF m 10 #[rv b, iv (0 : Int32), rv d, iv (0 : Int32), iv (3 : Int32), iv (0 : Int32), .unset] []))) (fun t_ kont => XS.icmpNo X0.here hx rfl (hb hby d15_7) rfl (tlt (by decide : ((0 : Int32)) < ((3 : Int32)))).2.1 kont) ?_
  refine own_bk (S' := (s₁.setTop (mkF m 11 #[rv b, iv (0 : Int32), rv d, iv (0 : Int32), iv (3 : Int32), iv (0 : Int32), .unset] [(.ref b)]))) (fun t_ kont => XS.aloadN X0.here hx rfl (hb hby d15_10) rfl rfl kont) ?_
  refine own_bk (S' := (s₁.setTop (mkF m 12 #[rv b, iv (0 : Int32), rv d, iv (0 : Int32), iv (3 : Int32), iv (0 : Int32), .unset] [(.int (0 : Int32)), (.ref b)]))) (fun t_ kont => XS.iloadN X0.here hx rfl (hb hby d15_11) rfl kont) ?_
  obtain ⟨c1, A2, q3, S4, M5, H6, U7⟩ := id VB
  have hin8 := inb_of (j := (0 : Int32)) S4 ⟨(by decide : ¬ ((0 : Int32) < (0 : Int32))), (by decide : (0 : Int32) < (3 : Int32))⟩
  refine own_bk (S' := (s₁.setTop (mkF m 13 #[rv b, iv (0 : Int32), rv d, iv (0 : Int32), iv (3 : Int32), iv (0 : Int32), .unset] [(.int q0)]))) (fun t_ kont => X0.caload hx (j := (0 : Int32)) (v := (.int q0)) (by rw [show s₁.heap = h0 from e0]; exact A2.1) (State.isArrayOf_alike hZ.alike A2.2.1) A2.2.2 hin8 (Has.at H6 hin8 rfl) (g := (mkF m 12 #[rv b, iv (0 : Int32), rv d, iv (0 : Int32), iv (3 : Int32), iv (0 : Int32), .unset] [(.int (0 : Int32)), (.ref b)])) rfl rfl (hb hby d15_12) _ kont) ?_
  refine own_bk (S' := (s₁.setTop (mkF m 15 #[rv b, iv (0 : Int32), rv d, iv (0 : Int32), iv (3 : Int32), iv (0 : Int32), iv q0] []))) (fun t_ kont => XS.istore X0.here hx rfl (hb hby d15_13) rfl (l' := #[rv b, iv (0 : Int32), rv d, iv (0 : Int32), iv (3 : Int32), iv (0 : Int32), iv q0]) rfl kont) ?_
  refine own_bk (S' := (s₁.setTop (mkF m 17 #[rv b, iv (0 : Int32), rv d, iv (0 : Int32), iv (3 : Int32), iv (0 : Int32), iv q0] [(.int q0)]))) (fun t_ kont => XS.iload X0.here hx rfl (hb hby d15_15) rfl kont) ?_
  refine own_bk (S' := (s₁.setTop (mkF m 20 #[rv b, iv (0 : Int32), rv d, iv (0 : Int32), iv (3 : Int32), iv (0 : Int32), iv q0] [(.int (255 : Int32)), (.int q0)]))) (fun t_ kont => XS.sipush X0.here hx rfl (hb hby d15_17) kont) ?_
  refine own_bk (S' := (s₁.setTop (mkF m 26 #[rv b, iv (0 : Int32), rv d, iv (0 : Int32), iv (3 : Int32), iv (0 : Int32), iv q0] []))) (fun t_ kont => XS.icmpYes X0.here hx rfl (pc0 := 20) (pc' := 26) rfl (hb hby d15_20) rfl (flt (gq0)).2.2.2 (by decide) (by decide) kont) ?_
  refine own_bk (S' := (s₁.setTop (mkF m 27 #[rv b, iv (0 : Int32), rv d, iv (0 : Int32), iv (3 : Int32), iv (0 : Int32), iv q0] [(.ref d)]))) (fun t_ kont => XS.aloadN X0.here hx rfl (hb hby d15_26) rfl rfl kont) ?_
  refine own_bk (S' := (s₁.setTop (mkF m 28 #[rv b, iv (0 : Int32), rv d, iv (0 : Int32), iv (3 : Int32), iv (0 : Int32), iv q0] [(.int (0 : Int32)), (.ref d)]))) (fun t_ kont => XS.iloadN X0.here hx rfl (hb hby d15_27) rfl kont) ?_
  refine own_bk (S' := (s₁.setTop (mkF m 30 #[rv b, iv (0 : Int32), rv d, iv (0 : Int32), iv (3 : Int32), iv (0 : Int32), iv q0] [(.int q0), (.int (0 : Int32)), (.ref d)]))) (fun t_ kont => XS.iload X0.here hx rfl (hb hby d15_28) rfl kont) ?_
  refine own_bk (S' := (s₁.setTop (mkF m 31 #[rv b, iv (0 : Int32), rv d, iv (0 : Int32), iv (3 : Int32), iv (0 : Int32), iv q0] [(.int (q0.toInt8.toInt32)), (.int (0 : Int32)), (.ref d)]))) (fun t_ kont => XS.i2b X0.here hx rfl (hb hby d15_30) rfl kont) ?_
  obtain ⟨c9, A10, q11, S12, M13, H14, U15⟩ := id VD
  obtain ⟨T16, h17, X18, e19, W20, st21⟩ := stB X0 hx hZ e0 A10 (j := (0 : Int32)) (inb_of S12 ⟨(by decide : ¬ ((0 : Int32) < (0 : Int32))), (by decide : (0 : Int32) < (3 : Int32))⟩) (g := (mkF m 31 #[rv b, iv (0 : Int32), rv d, iv (0 : Int32), iv (3 : Int32), iv (0 : Int32), iv q0] [(.int (q0.toInt8.toInt32)), (.int (0 : Int32)), (.ref d)])) rfl rfl (hb hby d15_31)
  have N22 := Fr.snoc X18 N0 ag
  have V23 := (VB.other W20 nbd)
  have Z24 := Nat.le_trans Z0 (Keep.of_wr W20).1
  have O25 := O.wr W20 ag
  have K26 := (Keep.refl h0 [d]).wr W20 (Or.inl (List.mem_of_getElem? (i := 0) rfl))
  have V27 : Arv Z h17 d kd .byte (3 : Int32) [(.int (nar .byte (q0.toInt8.toInt32))), (.int (0 : Int32)), (.int (0 : Int32))] (.int (0 : Int32)) := (Arv.set A10 q11 S12 M13 H14 U15 (fits_nar_byte _) W20 0 rfl (Nat.le_of_ble_eq_true rfl))
  refine own_bk (S' := (T16.setTop (mkF m 32 #[rv b, iv (0 : Int32), rv d, iv (0 : Int32), iv (3 : Int32), iv (0 : Int32), iv q0] []))) st21 ?_
  refine own_bk (S' := (T16.setTop (mkF m 35 #[rv b, iv (1 : Int32), rv d, iv (0 : Int32), iv (3 : Int32), iv (0 : Int32), iv q0] []))) (fun t_ kont => XS.iinc X18.here hx rfl (hb hby d15_32) rfl (l' := #[rv b, iv (1 : Int32), rv d, iv (0 : Int32), iv (3 : Int32), iv (0 : Int32), iv q0]) rfl kont) ?_
  refine own_bk (S' := (T16.setTop (mkF m 38 #[rv b, iv (1 : Int32), rv d, iv (1 : Int32), iv (3 : Int32), iv (0 : Int32), iv q0] []))) (fun t_ kont => XS.iinc X18.here hx rfl (hb hby d15_35) rfl (l' := #[rv b, iv (1 : Int32), rv d, iv (1 : Int32), iv (3 : Int32), iv (0 : Int32), iv q0]) rfl kont) ?_
  refine own_bk (S' := (T16.setTop (mkF m 41 #[rv b, iv (1 : Int32), rv d, iv (1 : Int32), iv (3 : Int32), iv (1 : Int32), iv q0] []))) (fun t_ kont => XS.iinc X18.here hx rfl (hb hby d15_38) rfl (l' := #[rv b, iv (1 : Int32), rv d, iv (1 : Int32), iv (3 : Int32), iv (1 : Int32), iv q0]) rfl kont) ?_
  refine own_bk (S' := (T16.setTop (mkF m 3 #[rv b, iv (1 : Int32), rv d, iv (1 : Int32), iv (3 : Int32), iv (1 : Int32), iv q0] []))) (fun t_ kont => XS.goto X18.here hx rfl (pc0 := 41) (pc' := 3) rfl (hb hby d15_41) (by decide) (by decide) kont) ?_
  refine own_bk (S' := (T16.setTop (mkF m 5 #[rv b, iv (1 : Int32), rv d, iv (1 : Int32), iv (3 : Int32), iv (1 : Int32), iv q0] [(.int (1 : Int32))]))) (fun t_ kont => XS.iload X18.here hx rfl (hb hby d15_3) rfl kont) ?_
  refine own_bk (S' := (T16.setTop (mkF m 7 #[rv b, iv (1 : Int32), rv d, iv (1 : Int32), iv (3 : Int32), iv (1 : Int32), iv q0] [(.int (3 : Int32)), (.int (1 : Int32))]))) (fun t_ kont => XS.iload X18.here hx rfl (hb hby d15_5) rfl kont) ?_
  refine own_bk (S' := (T16.setTop (mkF m 10 #[rv b, iv (1 : Int32), rv d, iv (1 : Int32), iv (3 : Int32), iv (1 : Int32), iv q0] []))) (fun t_ kont => XS.icmpNo X18.here hx rfl (hb hby d15_7) rfl (tlt (by decide : ((1 : Int32)) < ((3 : Int32)))).2.1 kont) ?_
  refine own_bk (S' := (T16.setTop (mkF m 11 #[rv b, iv (1 : Int32), rv d, iv (1 : Int32), iv (3 : Int32), iv (1 : Int32), iv q0] [(.ref b)]))) (fun t_ kont => XS.aloadN X18.here hx rfl (hb hby d15_10) rfl rfl kont) ?_
  refine own_bk (S' := (T16.setTop (mkF m 12 #[rv b, iv (1 : Int32), rv d, iv (1 : Int32), iv (3 : Int32), iv (1 : Int32), iv q0] [(.int (1 : Int32)), (.ref b)]))) (fun t_ kont => XS.iloadN X18.here hx rfl (hb hby d15_11) rfl kont) ?_
  obtain ⟨c28, A29, q30, S31, M32, H33, U34⟩ := id V23
  have hin35 := inb_of (j := (1 : Int32)) S31 ⟨(by decide : ¬ ((1 : Int32) < (0 : Int32))), (by decide : (1 : Int32) < (3 : Int32))⟩
  refine own_bk (S' := (T16.setTop (mkF m 13 #[rv b, iv (1 : Int32), rv d, iv (1 : Int32), iv (3 : Int32), iv (1 : Int32), iv q0] [(.int q1)]))) (fun t_ kont => X18.caload hx (j := (1 : Int32)) (v := (.int q1)) (by rw [show T16.heap = h17 from e19]; exact A29.1) (State.isArrayOf_alike hZ.alike A29.2.1) A29.2.2 hin35 (Has.at H33 hin35 rfl) (g := (mkF m 12 #[rv b, iv (1 : Int32), rv d, iv (1 : Int32), iv (3 : Int32), iv (1 : Int32), iv q0] [(.int (1 : Int32)), (.ref b)])) rfl rfl (hb hby d15_12) _ kont) ?_
  refine own_bk (S' := (T16.setTop (mkF m 15 #[rv b, iv (1 : Int32), rv d, iv (1 : Int32), iv (3 : Int32), iv (1 : Int32), iv q1] []))) (fun t_ kont => XS.istore X18.here hx rfl (hb hby d15_13) rfl (l' := #[rv b, iv (1 : Int32), rv d, iv (1 : Int32), iv (3 : Int32), iv (1 : Int32), iv q1]) rfl kont) ?_
  refine own_bk (S' := (T16.setTop (mkF m 17 #[rv b, iv (1 : Int32), rv d, iv (1 : Int32), iv (3 : Int32), iv (1 : Int32), iv q1] [(.int q1)]))) (fun t_ kont => XS.iload X18.here hx rfl (hb hby d15_15) rfl kont) ?_
  refine own_bk (S' := (T16.setTop (mkF m 20 #[rv b, iv (1 : Int32), rv d, iv (1 : Int32), iv (3 : Int32), iv (1 : Int32), iv q1] [(.int (255 : Int32)), (.int q1)]))) (fun t_ kont => XS.sipush X18.here hx rfl (hb hby d15_17) kont) ?_
  refine own_bk (S' := (T16.setTop (mkF m 26 #[rv b, iv (1 : Int32), rv d, iv (1 : Int32), iv (3 : Int32), iv (1 : Int32), iv q1] []))) (fun t_ kont => XS.icmpYes X18.here hx rfl (pc0 := 20) (pc' := 26) rfl (hb hby d15_20) rfl (flt (gq1)).2.2.2 (by decide) (by decide) kont) ?_
  refine own_bk (S' := (T16.setTop (mkF m 27 #[rv b, iv (1 : Int32), rv d, iv (1 : Int32), iv (3 : Int32), iv (1 : Int32), iv q1] [(.ref d)]))) (fun t_ kont => XS.aloadN X18.here hx rfl (hb hby d15_26) rfl rfl kont) ?_
  refine own_bk (S' := (T16.setTop (mkF m 28 #[rv b, iv (1 : Int32), rv d, iv (1 : Int32), iv (3 : Int32), iv (1 : Int32), iv q1] [(.int (1 : Int32)), (.ref d)]))) (fun t_ kont => XS.iloadN X18.here hx rfl (hb hby d15_27) rfl kont) ?_
  refine own_bk (S' := (T16.setTop (mkF m 30 #[rv b, iv (1 : Int32), rv d, iv (1 : Int32), iv (3 : Int32), iv (1 : Int32), iv q1] [(.int q1), (.int (1 : Int32)), (.ref d)]))) (fun t_ kont => XS.iload X18.here hx rfl (hb hby d15_28) rfl kont) ?_
  refine own_bk (S' := (T16.setTop (mkF m 31 #[rv b, iv (1 : Int32), rv d, iv (1 : Int32), iv (3 : Int32), iv (1 : Int32), iv q1] [(.int (q1.toInt8.toInt32)), (.int (1 : Int32)), (.ref d)]))) (fun t_ kont => XS.i2b X18.here hx rfl (hb hby d15_30) rfl kont) ?_
  obtain ⟨c36, A37, q38, S39, M40, H41, U42⟩ := id V27
  obtain ⟨T43, h44, X45, e46, W47, st48⟩ := stB X18 hx hZ e19 A37 (j := (1 : Int32)) (inb_of S39 ⟨(by decide : ¬ ((1 : Int32) < (0 : Int32))), (by decide : (1 : Int32) < (3 : Int32))⟩) (g := (mkF m 31 #[rv b, iv (1 : Int32), rv d, iv (1 : Int32), iv (3 : Int32), iv (1 : Int32), iv q1] [(.int (q1.toInt8.toInt32)), (.int (1 : Int32)), (.ref d)])) rfl rfl (hb hby d15_31)
  have N49 := Fr.snoc X45 N22 ag
  have V50 := (V23.other W47 nbd)
  have Z51 := Nat.le_trans Z24 (Keep.of_wr W47).1
  have O52 := O25.wr W47 ag
  have K53 := K26.wr W47 (Or.inl (List.mem_of_getElem? (i := 0) rfl))
  have V54 : Arv Z h44 d kd .byte (3 : Int32) [(.int (nar .byte (q0.toInt8.toInt32))), (.int (nar .byte (q1.toInt8.toInt32))), (.int (0 : Int32))] (.int (0 : Int32)) := (Arv.set A37 q38 S39 M40 H41 U42 (fits_nar_byte _) W47 1 rfl (Nat.le_of_ble_eq_true rfl))
  refine own_bk (S' := (T43.setTop (mkF m 32 #[rv b, iv (1 : Int32), rv d, iv (1 : Int32), iv (3 : Int32), iv (1 : Int32), iv q1] []))) st48 ?_
  refine own_bk (S' := (T43.setTop (mkF m 35 #[rv b, iv (2 : Int32), rv d, iv (1 : Int32), iv (3 : Int32), iv (1 : Int32), iv q1] []))) (fun t_ kont => XS.iinc X45.here hx rfl (hb hby d15_32) rfl (l' := #[rv b, iv (2 : Int32), rv d, iv (1 : Int32), iv (3 : Int32), iv (1 : Int32), iv q1]) rfl kont) ?_
  refine own_bk (S' := (T43.setTop (mkF m 38 #[rv b, iv (2 : Int32), rv d, iv (2 : Int32), iv (3 : Int32), iv (1 : Int32), iv q1] []))) (fun t_ kont => XS.iinc X45.here hx rfl (hb hby d15_35) rfl (l' := #[rv b, iv (2 : Int32), rv d, iv (2 : Int32), iv (3 : Int32), iv (1 : Int32), iv q1]) rfl kont) ?_
  refine own_bk (S' := (T43.setTop (mkF m 41 #[rv b, iv (2 : Int32), rv d, iv (2 : Int32), iv (3 : Int32), iv (2 : Int32), iv q1] []))) (fun t_ kont => XS.iinc X45.here hx rfl (hb hby d15_38) rfl (l' := #[rv b, iv (2 : Int32), rv d, iv (2 : Int32), iv (3 : Int32), iv (2 : Int32), iv q1]) rfl kont) ?_
  refine own_bk (S' := (T43.setTop (mkF m 3 #[rv b, iv (2 : Int32), rv d, iv (2 : Int32), iv (3 : Int32), iv (2 : Int32), iv q1] []))) (fun t_ kont => XS.goto X45.here hx rfl (pc0 := 41) (pc' := 3) rfl (hb hby d15_41) (by decide) (by decide) kont) ?_
  refine own_bk (S' := (T43.setTop (mkF m 5 #[rv b, iv (2 : Int32), rv d, iv (2 : Int32), iv (3 : Int32), iv (2 : Int32), iv q1] [(.int (2 : Int32))]))) (fun t_ kont => XS.iload X45.here hx rfl (hb hby d15_3) rfl kont) ?_
  refine own_bk (S' := (T43.setTop (mkF m 7 #[rv b, iv (2 : Int32), rv d, iv (2 : Int32), iv (3 : Int32), iv (2 : Int32), iv q1] [(.int (3 : Int32)), (.int (2 : Int32))]))) (fun t_ kont => XS.iload X45.here hx rfl (hb hby d15_5) rfl kont) ?_
  refine own_bk (S' := (T43.setTop (mkF m 10 #[rv b, iv (2 : Int32), rv d, iv (2 : Int32), iv (3 : Int32), iv (2 : Int32), iv q1] []))) (fun t_ kont => XS.icmpNo X45.here hx rfl (hb hby d15_7) rfl (tlt (by decide : ((2 : Int32)) < ((3 : Int32)))).2.1 kont) ?_
  refine own_bk (S' := (T43.setTop (mkF m 11 #[rv b, iv (2 : Int32), rv d, iv (2 : Int32), iv (3 : Int32), iv (2 : Int32), iv q1] [(.ref b)]))) (fun t_ kont => XS.aloadN X45.here hx rfl (hb hby d15_10) rfl rfl kont) ?_
  refine own_bk (S' := (T43.setTop (mkF m 12 #[rv b, iv (2 : Int32), rv d, iv (2 : Int32), iv (3 : Int32), iv (2 : Int32), iv q1] [(.int (2 : Int32)), (.ref b)]))) (fun t_ kont => XS.iloadN X45.here hx rfl (hb hby d15_11) rfl kont) ?_
  obtain ⟨c55, A56, q57, S58, M59, H60, U61⟩ := id V50
  have hin62 := inb_of (j := (2 : Int32)) S58 ⟨(by decide : ¬ ((2 : Int32) < (0 : Int32))), (by decide : (2 : Int32) < (3 : Int32))⟩
  refine own_bk (S' := (T43.setTop (mkF m 13 #[rv b, iv (2 : Int32), rv d, iv (2 : Int32), iv (3 : Int32), iv (2 : Int32), iv q1] [(.int q2)]))) (fun t_ kont => X45.caload hx (j := (2 : Int32)) (v := (.int q2)) (by rw [show T43.heap = h44 from e46]; exact A56.1) (State.isArrayOf_alike hZ.alike A56.2.1) A56.2.2 hin62 (Has.at H60 hin62 rfl) (g := (mkF m 12 #[rv b, iv (2 : Int32), rv d, iv (2 : Int32), iv (3 : Int32), iv (2 : Int32), iv q1] [(.int (2 : Int32)), (.ref b)])) rfl rfl (hb hby d15_12) _ kont) ?_
  refine own_bk (S' := (T43.setTop (mkF m 15 #[rv b, iv (2 : Int32), rv d, iv (2 : Int32), iv (3 : Int32), iv (2 : Int32), iv q2] []))) (fun t_ kont => XS.istore X45.here hx rfl (hb hby d15_13) rfl (l' := #[rv b, iv (2 : Int32), rv d, iv (2 : Int32), iv (3 : Int32), iv (2 : Int32), iv q2]) rfl kont) ?_
  refine own_bk (S' := (T43.setTop (mkF m 17 #[rv b, iv (2 : Int32), rv d, iv (2 : Int32), iv (3 : Int32), iv (2 : Int32), iv q2] [(.int q2)]))) (fun t_ kont => XS.iload X45.here hx rfl (hb hby d15_15) rfl kont) ?_
  refine own_bk (S' := (T43.setTop (mkF m 20 #[rv b, iv (2 : Int32), rv d, iv (2 : Int32), iv (3 : Int32), iv (2 : Int32), iv q2] [(.int (255 : Int32)), (.int q2)]))) (fun t_ kont => XS.sipush X45.here hx rfl (hb hby d15_17) kont) ?_
  refine own_bk (S' := (T43.setTop (mkF m 26 #[rv b, iv (2 : Int32), rv d, iv (2 : Int32), iv (3 : Int32), iv (2 : Int32), iv q2] []))) (fun t_ kont => XS.icmpYes X45.here hx rfl (pc0 := 20) (pc' := 26) rfl (hb hby d15_20) rfl (flt (gq2)).2.2.2 (by decide) (by decide) kont) ?_
  refine own_bk (S' := (T43.setTop (mkF m 27 #[rv b, iv (2 : Int32), rv d, iv (2 : Int32), iv (3 : Int32), iv (2 : Int32), iv q2] [(.ref d)]))) (fun t_ kont => XS.aloadN X45.here hx rfl (hb hby d15_26) rfl rfl kont) ?_
  refine own_bk (S' := (T43.setTop (mkF m 28 #[rv b, iv (2 : Int32), rv d, iv (2 : Int32), iv (3 : Int32), iv (2 : Int32), iv q2] [(.int (2 : Int32)), (.ref d)]))) (fun t_ kont => XS.iloadN X45.here hx rfl (hb hby d15_27) rfl kont) ?_
  refine own_bk (S' := (T43.setTop (mkF m 30 #[rv b, iv (2 : Int32), rv d, iv (2 : Int32), iv (3 : Int32), iv (2 : Int32), iv q2] [(.int q2), (.int (2 : Int32)), (.ref d)]))) (fun t_ kont => XS.iload X45.here hx rfl (hb hby d15_28) rfl kont) ?_
  refine own_bk (S' := (T43.setTop (mkF m 31 #[rv b, iv (2 : Int32), rv d, iv (2 : Int32), iv (3 : Int32), iv (2 : Int32), iv q2] [(.int (q2.toInt8.toInt32)), (.int (2 : Int32)), (.ref d)]))) (fun t_ kont => XS.i2b X45.here hx rfl (hb hby d15_30) rfl kont) ?_
  obtain ⟨c63, A64, q65, S66, M67, H68, U69⟩ := id V54
  obtain ⟨T70, h71, X72, e73, W74, st75⟩ := stB X45 hx hZ e46 A64 (j := (2 : Int32)) (inb_of S66 ⟨(by decide : ¬ ((2 : Int32) < (0 : Int32))), (by decide : (2 : Int32) < (3 : Int32))⟩) (g := (mkF m 31 #[rv b, iv (2 : Int32), rv d, iv (2 : Int32), iv (3 : Int32), iv (2 : Int32), iv q2] [(.int (q2.toInt8.toInt32)), (.int (2 : Int32)), (.ref d)])) rfl rfl (hb hby d15_31)
  have N76 := Fr.snoc X72 N49 ag
  have V77 := (V50.other W74 nbd)
  have Z78 := Nat.le_trans Z51 (Keep.of_wr W74).1
  have O79 := O52.wr W74 ag
  have K80 := K53.wr W74 (Or.inl (List.mem_of_getElem? (i := 0) rfl))
  have V81 : Arv Z h71 d kd .byte (3 : Int32) [(.int (nar .byte (q0.toInt8.toInt32))), (.int (nar .byte (q1.toInt8.toInt32))), (.int (nar .byte (q2.toInt8.toInt32)))] (.int (0 : Int32)) := (Arv.set A64 q65 S66 M67 H68 U69 (fits_nar_byte _) W74 2 rfl (Nat.le_of_ble_eq_true rfl))
  refine own_bk (S' := (T70.setTop (mkF m 32 #[rv b, iv (2 : Int32), rv d, iv (2 : Int32), iv (3 : Int32), iv (2 : Int32), iv q2] []))) st75 ?_
  refine own_bk (S' := (T70.setTop (mkF m 35 #[rv b, iv (3 : Int32), rv d, iv (2 : Int32), iv (3 : Int32), iv (2 : Int32), iv q2] []))) (fun t_ kont => XS.iinc X72.here hx rfl (hb hby d15_32) rfl (l' := #[rv b, iv (3 : Int32), rv d, iv (2 : Int32), iv (3 : Int32), iv (2 : Int32), iv q2]) rfl kont) ?_
  refine own_bk (S' := (T70.setTop (mkF m 38 #[rv b, iv (3 : Int32), rv d, iv (3 : Int32), iv (3 : Int32), iv (2 : Int32), iv q2] []))) (fun t_ kont => XS.iinc X72.here hx rfl (hb hby d15_35) rfl (l' := #[rv b, iv (3 : Int32), rv d, iv (3 : Int32), iv (3 : Int32), iv (2 : Int32), iv q2]) rfl kont) ?_
  refine own_bk (S' := (T70.setTop (mkF m 41 #[rv b, iv (3 : Int32), rv d, iv (3 : Int32), iv (3 : Int32), iv (3 : Int32), iv q2] []))) (fun t_ kont => XS.iinc X72.here hx rfl (hb hby d15_38) rfl (l' := #[rv b, iv (3 : Int32), rv d, iv (3 : Int32), iv (3 : Int32), iv (3 : Int32), iv q2]) rfl kont) ?_
  refine own_bk (S' := (T70.setTop (mkF m 3 #[rv b, iv (3 : Int32), rv d, iv (3 : Int32), iv (3 : Int32), iv (3 : Int32), iv q2] []))) (fun t_ kont => XS.goto X72.here hx rfl (pc0 := 41) (pc' := 3) rfl (hb hby d15_41) (by decide) (by decide) kont) ?_
  refine own_bk (S' := (T70.setTop (mkF m 5 #[rv b, iv (3 : Int32), rv d, iv (3 : Int32), iv (3 : Int32), iv (3 : Int32), iv q2] [(.int (3 : Int32))]))) (fun t_ kont => XS.iload X72.here hx rfl (hb hby d15_3) rfl kont) ?_
  refine own_bk (S' := (T70.setTop (mkF m 7 #[rv b, iv (3 : Int32), rv d, iv (3 : Int32), iv (3 : Int32), iv (3 : Int32), iv q2] [(.int (3 : Int32)), (.int (3 : Int32))]))) (fun t_ kont => XS.iload X72.here hx rfl (hb hby d15_5) rfl kont) ?_
  refine own_bk (S' := (T70.setTop (mkF m 44 #[rv b, iv (3 : Int32), rv d, iv (3 : Int32), iv (3 : Int32), iv (3 : Int32), iv q2] []))) (fun t_ kont => XS.icmpYes X72.here hx rfl (pc0 := 7) (pc' := 44) rfl (hb hby d15_7) rfl (flt (by decide : ¬ ((3 : Int32)) < ((3 : Int32)))).2.1 (by decide) (by decide) kont) ?_
  refine own_bk (S' := (T70.setTop (mkF m 46 #[rv b, iv (3 : Int32), rv d, iv (3 : Int32), iv (3 : Int32), iv (3 : Int32), iv q2] [(.int (3 : Int32))]))) (fun t_ kont => XS.iload X72.here hx rfl (hb hby d15_44) rfl kont) ?_
  exact own_retI X72 hx hlk Bd.returns (hb hby d15_46) (by rw [e73]; exact ⟨rfl, N76, O79, K80, _, V81⟩) (by decide) (by decide)
theorem d14_0 : decode jdk_52_method_16_code 0 = .ok (.iload_n 2, 1) := by decide +kernel
theorem d14_1 : decode jdk_52_method_16_code 1 = .ok (.newarray .byte, 2) := by decide +kernel
theorem d14_3 : decode jdk_52_method_16_code 3 = .ok (.astore_n 3, 1) := by decide +kernel
theorem d14_4 : decode jdk_52_method_16_code 4 = .ok (.aload_n 0, 1) := by decide +kernel
theorem d14_5 : decode jdk_52_method_16_code 5 = .ok (.iload_n 1, 1) := by decide +kernel
theorem d14_6 : decode jdk_52_method_16_code 6 = .ok (.aload_n 3, 1) := by decide +kernel
theorem d14_7 : decode jdk_52_method_16_code 7 = .ok (.iconst 0, 1) := by decide +kernel
theorem d14_8 : decode jdk_52_method_16_code 8 = .ok (.iload_n 2, 1) := by decide +kernel
theorem d14_9 : decode jdk_52_method_16_code 9 = .ok (.invokestatic 115, 3) := by decide +kernel
theorem d14_12 : decode jdk_52_method_16_code 12 = .ok (.istore 4, 2) := by decide +kernel
theorem d14_14 : decode jdk_52_method_16_code 14 = .ok (.iload 4, 2) := by decide +kernel
theorem d14_16 : decode jdk_52_method_16_code 16 = .ok (.iload_n 2, 1) := by decide +kernel
theorem d14_17 : decode jdk_52_method_16_code 17 = .ok (.if_icmp .eq 40, 3) := by decide +kernel
theorem d14_20 : decode jdk_52_method_16_code 20 = .ok (.aload_n 0, 1) := by decide +kernel
theorem d14_21 : decode jdk_52_method_16_code 21 = .ok (.iload_n 1, 1) := by decide +kernel
theorem d14_22 : decode jdk_52_method_16_code 22 = .ok (.iload_n 2, 1) := by decide +kernel
theorem d14_23 : decode jdk_52_method_16_code 23 = .ok (.invokestatic 119, 3) := by decide +kernel
theorem d14_26 : decode jdk_52_method_16_code 26 = .ok (.astore 5, 2) := by decide +kernel
theorem d14_28 : decode jdk_52_method_16_code 28 = .ok (.aload 5, 2) := by decide +kernel
theorem d14_30 : decode jdk_52_method_16_code 30 = .ok (.iload 4, 2) := by decide +kernel
theorem d14_32 : decode jdk_52_method_16_code 32 = .ok (.invokestatic 71, 3) := by decide +kernel
theorem d14_35 : decode jdk_52_method_16_code 35 = .ok (.sipush 255, 3) := by decide +kernel
theorem d14_38 : decode jdk_52_method_16_code 38 = .ok (.if_icmp .gt 16, 3) := by decide +kernel
theorem d14_41 : decode jdk_52_method_16_code 41 = .ok (.aload 5, 2) := by decide +kernel
theorem d14_43 : decode jdk_52_method_16_code 43 = .ok (.iconst 0, 1) := by decide +kernel
theorem d14_44 : decode jdk_52_method_16_code 44 = .ok (.aload_n 3, 1) := by decide +kernel
theorem d14_45 : decode jdk_52_method_16_code 45 = .ok (.iconst 0, 1) := by decide +kernel
theorem d14_46 : decode jdk_52_method_16_code 46 = .ok (.iload_n 2, 1) := by decide +kernel
theorem d14_47 : decode jdk_52_method_16_code 47 = .ok (.invokestatic 123, 3) := by decide +kernel
theorem d14_50 : decode jdk_52_method_16_code 50 = .ok (.iload_n 2, 1) := by decide +kernel
theorem d14_51 : decode jdk_52_method_16_code 51 = .ok (.if_icmp .eq 6, 3) := by decide +kernel
theorem d14_54 : decode jdk_52_method_16_code 54 = .ok (.aload 5, 2) := by decide +kernel
theorem d14_56 : decode jdk_52_method_16_code 56 = .ok (.areturn, 1) := by decide +kernel
theorem d14_57 : decode jdk_52_method_16_code 57 = .ok (.aload_n 3, 1) := by decide +kernel
theorem d14_58 : decode jdk_52_method_16_code 58 = .ok (.areturn, 1) := by decide +kernel
theorem ef_rmC320 (m : MethodId) (x0 : Addr) (x1 : Int32) (x2 : Int32) : entryFrame m #[(.ref x0), (.int x1), (.int x2)] 6 = mkF m 0 #[.val (.ref x0), .val (.int x1), .val (.int x2), .unset, .unset, .unset] [] := by first | (simp [entryFrame, mkF, argsToLocals, Value.category, maxLocals]; done) | rfl
def Q_rmC320 (Z : State) (b : Addr) (kb : ClassId) (q0 q1 cz : Int32) (h0 : Heap) (n0 : Nat) (v : Option Value) (h : Heap) (L : List Loc) : Prop := Fr n0 L ∧ Old Z n0 h ∧ Keep h0 h [] ∧ ∃ r kr vs, v = some (.ref r) ∧ Arv Z h r kr .byte (4 : Int32) vs (.int (0 : Int32))
set_option maxRecDepth 65536 in
set_option maxHeartbeats 40000000 in
theorem rmC320 (l : Launch) (Z : State) (a0 : Array Value) (hw : ∀ d ∈ tables_1, d.before a0 Z = true) (ws : List Jvm.Cond) (b : Addr) (kb : ClassId) (q0 q1 cz : Int32) (h0 : Heap) (n0 : Nat) (Z0 : n0 ≤ h0.size) (O : Old Z n0 h0) (SU : own_St Z cz) (VB : Arv Z h0 b kb .char (2 : Int32) [(.int q0), (.int q1)] (.int (0 : Int32))) (lq0 : ¬ q0 < 0) (uq0 : ¬ (65535 : Int32) < q0) (lq1 : ¬ q1 < 0) (uq1 : ¬ (65535 : Int32) < q1)  (gq0 : (255 : Int32) < q0) :
    MetFree l (⟨"java/lang/StringUTF16", "compress", "([CII)[B"⟩ : MethodName) (head1 (Jvm.Cond.code (⟨"java/lang/StringUTF16", "compress", "([CII)[B"⟩ : MethodName) jdk_52_method_16_code 6 (some (.array .byte)) :: ws) ({ frames := 3, cells := 2, slots := 9, locals := 64 } : Room)) (fun as_ U_ => as_ = #[(.ref b), (.int (0 : Int32)), (.int (2 : Int32))] ∧ Z.Warmed39 U_.vm ∧ U_.heap = h0) (fun _ _ _ _ _ => True) (fun _ U_ o_ U2_ => ∃ v_ L_, o_ = .returned v_ ∧ (Q_rmC320 Z b kb q0 q1 cz h0 n0) v_ U2_.heap L_ ∧ FrameEnd U_ o_ U2_ L_ ({ frames := 3, cells := 2, slots := 9, locals := 64 } : Room).cells ({ frames := 3, cells := 2, slots := 9, locals := 64 } : Room).slots) := by
  refine MetFree.of_bodySF (plainFor_of_name (by first | (simp [plainName, overriddenIn]; done) | decide +kernel : plainName "java/lang/StringUTF16" = true)) hisR ?_
  intro p e s m args below meth c s₁ Bd hml0 hP hK
  obtain ⟨rfl, hZ, hh⟩ := hP
  have hx := Bd.exec
  have hby := Bd.bytes
  have hlk := Bd.notSynchronized
  have hml : c.maxLocals = 6 := hml0
  have hown : s.vm.findClass "java/lang/StringUTF16" = some m.cls := findClass_of_methodNamed Bd.named
  have hnm := (name_of_methodNamed Bd.named Bd.method).1
  have X0 : Stand p l e ({ frames := 3, cells := 2, slots := 9, locals := 64 } : Room) s m #[(.ref b), (.int (0 : Int32)), (.int (2 : Int32))] below meth c s₁ [] 0 0 := Stand.of_body Bd
  have e0 : s₁.heap = h0 := by rw [← hh, Bd.state]; rfl
  have N0 := Fr.nil n0
  show own_Go p e below (own_R s below (Q_rmC320 Z b kb q0 q1 cz h0 n0) ({ frames := 3, cells := 2, slots := 9, locals := 64 } : Room).cells ({ frames := 3, cells := 2, slots := 9, locals := 64 } : Room).slots) (s₁.setTop (entryFrame m #[(.ref b), (.int (0 : Int32)), (.int (2 : Int32))] 6))
  refine own_bk (S' := (s₁.setTop (mkF m 0 #[rv b, iv (0 : Int32), iv (2 : Int32), .unset, .unset, .unset] []))) (fun t_ kont => castTop (ef_rmC320 m (b) ((0 : Int32)) ((2 : Int32))) kont) ?_
  refine own_bk (S' := (s₁.setTop (mkF m 1 #[rv b, iv (0 : Int32), iv (2 : Int32), .unset, .unset, .unset] [(.int (2 : Int32))]))) (fun t_ kont => XS.iloadN X0.here hx rfl (hb hby d14_0) rfl kont) ?_
  obtain ⟨T1, h2, k3, X4, e5, E6, A7, st8⟩ := newP X0 hx hZ (hw _ (List.mem_of_getElem? (i := 107) rfl)) e0 (g := (mkF m 1 #[rv b, iv (0 : Int32), iv (2 : Int32), .unset, .unset, .unset] [(.int (2 : Int32))])) rfl (hb hby d14_1) rfl (by decide : ¬ ((2 : Int32) < (0 : Int32))) (cap := 2) (by decide : (2 : Int32).toNatClampNeg ≤ 2) (by decide) (by decide) (by decide)
  obtain ⟨a9, g10⟩ : ∃ z, z = h0.size := ⟨_, rfl⟩
  rw [← g10] at A7 st8
  have ne12 : b ≠ a9 := Nat.ne_of_lt (Nat.lt_of_lt_of_le VB.lt (Nat.le_of_eq g10.symm))
  have ag13 : n0 ≤ a9 := Nat.le_trans Z0 (Nat.le_of_eq g10.symm)
  have kg14 : h0.size ≤ a9 := Nat.le_trans (Keep.refl h0 []).1 (Nat.le_of_eq g10.symm)
  have V15 := (VB.ext E6)
  have Z16 := Nat.le_trans Z0 E6.1
  have O17 := O.ext E6
  have K18 := (Keep.refl h0 []).ext E6
  have V11 : Arv Z h2 a9 k3 .byte (2 : Int32) [] (.int (0 : Int32)) := (Arv.new A7 (by decide : ¬ ((2 : Int32) < (0 : Int32))))
  have V19 : Arv Z h2 a9 k3 .byte (2 : Int32) [(.int (0 : Int32)), (.int (0 : Int32))] (.int (0 : Int32)) := (V11.pad (pad_rep [] (.int (0 : Int32)) 2))
  refine own_bk (S' := (T1.setTop (mkF m 3 #[rv b, iv (0 : Int32), iv (2 : Int32), .unset, .unset, .unset] [(.ref a9)]))) st8 ?_
  refine own_bk (S' := (T1.setTop (mkF m 4 #[rv b, iv (0 : Int32), iv (2 : Int32), rv a9, .unset, .unset] []))) (fun t_ kont => XS.astoreN X4.here hx rfl (hb hby d14_3) rfl rfl (l' := #[rv b, iv (0 : Int32), iv (2 : Int32), rv a9, .unset, .unset]) rfl kont) ?_
  refine own_bk (S' := (T1.setTop (mkF m 5 #[rv b, iv (0 : Int32), iv (2 : Int32), rv a9, .unset, .unset] [(.ref b)]))) (fun t_ kont => XS.aloadN X4.here hx rfl (hb hby d14_4) rfl rfl kont) ?_
  refine own_bk (S' := (T1.setTop (mkF m 6 #[rv b, iv (0 : Int32), iv (2 : Int32), rv a9, .unset, .unset] [(.int (0 : Int32)), (.ref b)]))) (fun t_ kont => XS.iloadN X4.here hx rfl (hb hby d14_5) rfl kont) ?_
  refine own_bk (S' := (T1.setTop (mkF m 7 #[rv b, iv (0 : Int32), iv (2 : Int32), rv a9, .unset, .unset] [(.ref a9), (.int (0 : Int32)), (.ref b)]))) (fun t_ kont => XS.aloadN X4.here hx rfl (hb hby d14_6) rfl rfl kont) ?_
  refine own_bk (S' := (T1.setTop (mkF m 8 #[rv b, iv (0 : Int32), iv (2 : Int32), rv a9, .unset, .unset] [(.int (0 : Int32)), (.ref a9), (.int (0 : Int32)), (.ref b)]))) (fun t_ kont => XS.iconst X4.here hx rfl (hb hby d14_7) kont) ?_
  refine own_bk (S' := (T1.setTop (mkF m 9 #[rv b, iv (0 : Int32), iv (2 : Int32), rv a9, .unset, .unset] [(.int (2 : Int32)), (.int (0 : Int32)), (.ref a9), (.int (0 : Int32)), (.ref b)]))) (fun t_ kont => XS.iloadN X4.here hx rfl (hb hby d14_8) rfl kont) ?_
  obtain ⟨_, _, ⟨T20, L21, k22, n23⟩, -, X24, ⟨Lc25, hQ26, l27, y28, z29⟩, st30⟩ := Jvm.LawKit.callS X4 hx (y := (⟨"java/lang/StringUTF16", "compress", "([CI[BII)I"⟩ : MethodName)) hown (mvT hZ (hw _ (List.mem_of_getElem? (i := 124) rfl))) (mvT hZ (hw _ (List.mem_of_getElem? (i := 125) rfl))) (mvT hZ (hw _ (List.mem_of_getElem? (i := 122) rfl))) (mvT hZ (hw _ (List.mem_of_getElem? (i := 126) rfl))) (by decide) (backOf (W := 0) (rmC520 l Z a0 hw [] b a9 kb k3 q0 q1 h2 n0 Z16 O17 V15 V19 ne12 ag13 gq0) hZ (hw _ (List.mem_of_getElem? (i := 126) rfl)) (hw _ (List.mem_of_getElem? (i := 122) rfl)) (by decide) (by decide)) (g := (mkF m 9 #[rv b, iv (0 : Int32), iv (2 : Int32), rv a9, .unset, .unset] [(.int (2 : Int32)), (.int (0 : Int32)), (.ref a9), (.int (0 : Int32)), (.ref b)])) rfl (by rw [hml]; rfl) (argsL := [(.ref b), (.int (0 : Int32)), (.ref a9), (.int (0 : Int32)), (.int (2 : Int32))]) (rest := []) (lenOf (by decide +kernel : parseMethodDescriptor "([CI[BII)I" = some ⟨[(.array .char), .int, (.array .byte), .int, .int], some .int⟩) rfl) rfl (by show 2 * 0 + _ ≤ _; exact Nat.le_of_eq rfl) (hb hby d14_9) (fun _ _ => ⟨rfl, e5, (by decide : 1 + 0 ≤ _), (by decide : 2 + 0 ≤ _)⟩)
  dsimp only [Pt.U, Pt.locs, Pt.cells, Pt.slots] at X24 l27 y28 z29 st30 hQ26
  subst l27 y28 z29
  obtain ⟨rfl, N31, O_, K_, vs_, Vd_⟩ := hQ26
  have N33 := Fr.app N0 N31
  have V34 := (V15.keep K_ (ninS ne12 nin0))
  have Z35 := Nat.le_trans Z16 K_.1
  have O36 := O17.keep K_ (allS ag13 all0)
  have K37 := K18.trans K_ (allS (Or.inr kg14) all0)
  refine own_bk (S' := (T20.setTop (mkF m 12 #[rv b, iv (0 : Int32), iv (2 : Int32), rv a9, .unset, .unset] [(.int (0 : Int32))]))) st30 ?_
  refine own_bk (S' := (T20.setTop (mkF m 14 #[rv b, iv (0 : Int32), iv (2 : Int32), rv a9, iv (0 : Int32), .unset] []))) (fun t_ kont => XS.istore X24.here hx rfl (hb hby d14_12) rfl (l' := #[rv b, iv (0 : Int32), iv (2 : Int32), rv a9, iv (0 : Int32), .unset]) rfl kont) ?_
  refine own_bk (S' := (T20.setTop (mkF m 16 #[rv b, iv (0 : Int32), iv (2 : Int32), rv a9, iv (0 : Int32), .unset] [(.int (0 : Int32))]))) (fun t_ kont => XS.iload X24.here hx rfl (hb hby d14_14) rfl kont) ?_
  refine own_bk (S' := (T20.setTop (mkF m 17 #[rv b, iv (0 : Int32), iv (2 : Int32), rv a9, iv (0 : Int32), .unset] [(.int (2 : Int32)), (.int (0 : Int32))]))) (fun t_ kont => XS.iloadN X24.here hx rfl (hb hby d14_16) rfl kont) ?_
  refine own_bk (S' := (T20.setTop (mkF m 20 #[rv b, iv (0 : Int32), iv (2 : Int32), rv a9, iv (0 : Int32), .unset] []))) (fun t_ kont => XS.icmpNo X24.here hx rfl (hb hby d14_17) rfl (feq (by decide : ¬ ((0 : Int32)) = ((2 : Int32)))).1 kont) ?_
  refine own_bk (S' := (T20.setTop (mkF m 21 #[rv b, iv (0 : Int32), iv (2 : Int32), rv a9, iv (0 : Int32), .unset] [(.ref b)]))) (fun t_ kont => XS.aloadN X24.here hx rfl (hb hby d14_20) rfl rfl kont) ?_
  refine own_bk (S' := (T20.setTop (mkF m 22 #[rv b, iv (0 : Int32), iv (2 : Int32), rv a9, iv (0 : Int32), .unset] [(.int (0 : Int32)), (.ref b)]))) (fun t_ kont => XS.iloadN X24.here hx rfl (hb hby d14_21) rfl kont) ?_
  refine own_bk (S' := (T20.setTop (mkF m 23 #[rv b, iv (0 : Int32), iv (2 : Int32), rv a9, iv (0 : Int32), .unset] [(.int (2 : Int32)), (.int (0 : Int32)), (.ref b)]))) (fun t_ kont => XS.iloadN X24.here hx rfl (hb hby d14_22) rfl kont) ?_
  obtain ⟨_, _, ⟨T38, L39, k40, n41⟩, -, X42, ⟨Lc43, hQ44, l45, y46, z47⟩, st48⟩ := Jvm.LawKit.callS X24 hx (y := (⟨"java/lang/StringUTF16", "toBytes", "([CII)[B"⟩ : MethodName)) hown (mvT hZ (hw _ (List.mem_of_getElem? (i := 130) rfl))) (mvT hZ (hw _ (List.mem_of_getElem? (i := 131) rfl))) (mvT hZ (hw _ (List.mem_of_getElem? (i := 122) rfl))) (mvT hZ (hw _ (List.mem_of_getElem? (i := 132) rfl))) (by decide) (backOf (W := 0) (rmTB2 l Z a0 hw [] b kb q0 q1 cz T20.heap n0 Z35 O_ SU V34) hZ (hw _ (List.mem_of_getElem? (i := 132) rfl)) (hw _ (List.mem_of_getElem? (i := 122) rfl)) (by decide) (by decide)) (g := (mkF m 23 #[rv b, iv (0 : Int32), iv (2 : Int32), rv a9, iv (0 : Int32), .unset] [(.int (2 : Int32)), (.int (0 : Int32)), (.ref b)])) rfl (by rw [hml]; rfl) (argsL := [(.ref b), (.int (0 : Int32)), (.int (2 : Int32))]) (rest := []) (lenOf (by decide +kernel : parseMethodDescriptor "([CII)[B" = some ⟨[(.array .char), .int, .int], some (.array .byte)⟩) rfl) rfl (by show 2 * 0 + _ ≤ _; exact Nat.le_of_eq rfl) (hb hby d14_23) (fun _ _ => ⟨rfl, rfl, (by decide : 1 + 1 ≤ _), (by decide : 2 + 6 ≤ _)⟩)
  dsimp only [Pt.U, Pt.locs, Pt.cells, Pt.slots] at X42 l45 y46 z47 st48 hQ44
  subst l45 y46 z47
  obtain ⟨N49, O2_, K2_, r_, kr_, rfl, rg_, Vr_⟩ := hQ44
  have N51 := Fr.app N33 N49
  have V52 := (V34.keep K2_ nin0)
  have Z53 := Nat.le_trans Z35 K2_.1
  have O54 := O_.keep K2_ all0
  have K55 := K37.trans K2_ all0
  refine own_bk (S' := (T38.setTop (mkF m 26 #[rv b, iv (0 : Int32), iv (2 : Int32), rv a9, iv (0 : Int32), .unset] [(.ref r_)]))) st48 ?_
  refine own_bk (S' := (T38.setTop (mkF m 28 #[rv b, iv (0 : Int32), iv (2 : Int32), rv a9, iv (0 : Int32), rv r_] []))) (fun t_ kont => XS.astore X42.here hx rfl (hb hby d14_26) rfl rfl (l' := #[rv b, iv (0 : Int32), iv (2 : Int32), rv a9, iv (0 : Int32), rv r_]) rfl kont) ?_
  refine own_bk (S' := (T38.setTop (mkF m 30 #[rv b, iv (0 : Int32), iv (2 : Int32), rv a9, iv (0 : Int32), rv r_] [(.ref r_)]))) (fun t_ kont => XS.aload X42.here hx rfl (hb hby d14_28) rfl rfl kont) ?_
  refine own_bk (S' := (T38.setTop (mkF m 32 #[rv b, iv (0 : Int32), iv (2 : Int32), rv a9, iv (0 : Int32), rv r_] [(.int (0 : Int32)), (.ref r_)]))) (fun t_ kont => XS.iload X42.here hx rfl (hb hby d14_30) rfl kont) ?_
  obtain ⟨_, _, ⟨T56, L57, k58, n59⟩, -, X60, ⟨Lc61, hQ62, l63, y64, z65⟩, st66⟩ := Jvm.LawKit.callS X42 hx (y := (⟨"java/lang/StringUTF16", "getChar", "([BI)C"⟩ : MethodName)) hown (mvT hZ (hw _ (List.mem_of_getElem? (i := 146) rfl))) (mvT hZ (hw _ (List.mem_of_getElem? (i := 147) rfl))) (mvT hZ (hw _ (List.mem_of_getElem? (i := 122) rfl))) (mvT hZ (hw _ (List.mem_of_getElem? (i := 148) rfl))) (by decide) (backOf (W := 0) (rmGC20 l Z a0 hw [] r_ kr_ q0 cz (.int (own_lo q1)) (.int (own_hi q1)) T38.heap n0 Z53 O2_ SU Vr_ lq0 uq0) hZ (hw _ (List.mem_of_getElem? (i := 148) rfl)) (hw _ (List.mem_of_getElem? (i := 122) rfl)) (by decide) (by decide)) (g := (mkF m 32 #[rv b, iv (0 : Int32), iv (2 : Int32), rv a9, iv (0 : Int32), rv r_] [(.int (0 : Int32)), (.ref r_)])) rfl (by rw [hml]; rfl) (argsL := [(.ref r_), (.int (0 : Int32))]) (rest := []) (lenOf (by decide +kernel : parseMethodDescriptor "([BI)C" = some ⟨[(.array .byte), .int], some .char⟩) rfl) rfl (by show 2 * 0 + _ ≤ _; exact Nat.le_of_eq rfl) (hb hby d14_32) (fun _ _ => ⟨rfl, rfl, (by decide : 2 + 0 ≤ _), (by decide : 8 + 0 ≤ _)⟩)
  dsimp only [Pt.U, Pt.locs, Pt.cells, Pt.slots] at X60 l63 y64 z65 st66 hQ62
  subst l63 y64 z65
  obtain ⟨rfl, N67, e68⟩ := hQ62
  have N69 := Fr.app N51 N67
  refine own_bk (S' := (T56.setTop (mkF m 35 #[rv b, iv (0 : Int32), iv (2 : Int32), rv a9, iv (0 : Int32), rv r_] [(.int q0)]))) st66 ?_
  refine own_bk (S' := (T56.setTop (mkF m 38 #[rv b, iv (0 : Int32), iv (2 : Int32), rv a9, iv (0 : Int32), rv r_] [(.int (255 : Int32)), (.int q0)]))) (fun t_ kont => XS.sipush X60.here hx rfl (hb hby d14_35) kont) ?_
  refine own_bk (S' := (T56.setTop (mkF m 54 #[rv b, iv (0 : Int32), iv (2 : Int32), rv a9, iv (0 : Int32), rv r_] []))) (fun t_ kont => XS.icmpYes X60.here hx rfl (pc0 := 38) (pc' := 54) rfl (hb hby d14_38) rfl (tlt (gq0)).2.2.1 (by decide) (by decide) kont) ?_
  refine own_bk (S' := (T56.setTop (mkF m 56 #[rv b, iv (0 : Int32), iv (2 : Int32), rv a9, iv (0 : Int32), rv r_] [(.ref r_)]))) (fun t_ kont => XS.aload X60.here hx rfl (hb hby d14_54) rfl rfl kont) ?_
  exact own_retA X60 hx hlk Bd.returns rfl rfl rfl (hb hby d14_56) (by rw [e68]; exact ⟨N69, O2_, K55, _, _, _, rfl, Vr_⟩) (by decide) (by decide)
theorem ef_rmC321 (m : MethodId) (x0 : Addr) (x1 : Int32) (x2 : Int32) : entryFrame m #[(.ref x0), (.int x1), (.int x2)] 6 = mkF m 0 #[.val (.ref x0), .val (.int x1), .val (.int x2), .unset, .unset, .unset] [] := by first | (simp [entryFrame, mkF, argsToLocals, Value.category, maxLocals]; done) | rfl
def Q_rmC321 (Z : State) (b : Addr) (kb : ClassId) (q0 q1 cz : Int32) (h0 : Heap) (n0 : Nat) (v : Option Value) (h : Heap) (L : List Loc) : Prop := Fr n0 L ∧ Old Z n0 h ∧ Keep h0 h [] ∧ ∃ r kr vs, v = some (.ref r) ∧ Arv Z h r kr .byte (4 : Int32) vs (.int (0 : Int32))
set_option maxRecDepth 65536 in
set_option maxHeartbeats 40000000 in
theorem rmC321 (l : Launch) (Z : State) (a0 : Array Value) (hw : ∀ d ∈ tables_1, d.before a0 Z = true) (ws : List Jvm.Cond) (b : Addr) (kb : ClassId) (q0 q1 cz : Int32) (h0 : Heap) (n0 : Nat) (Z0 : n0 ≤ h0.size) (O : Old Z n0 h0) (SU : own_St Z cz) (VB : Arv Z h0 b kb .char (2 : Int32) [(.int q0), (.int q1)] (.int (0 : Int32))) (lq0 : ¬ q0 < 0) (uq0 : ¬ (65535 : Int32) < q0) (lq1 : ¬ q1 < 0) (uq1 : ¬ (65535 : Int32) < q1) (gq0 : ¬ (255 : Int32) < q0) (gq1 : (255 : Int32) < q1) :
    MetFree l (⟨"java/lang/StringUTF16", "compress", "([CII)[B"⟩ : MethodName) (head1 (Jvm.Cond.code (⟨"java/lang/StringUTF16", "compress", "([CII)[B"⟩ : MethodName) jdk_52_method_16_code 6 (some (.array .byte)) :: ws) ({ frames := 3, cells := 2, slots := 9, locals := 64 } : Room)) (fun as_ U_ => as_ = #[(.ref b), (.int (0 : Int32)), (.int (2 : Int32))] ∧ Z.Warmed39 U_.vm ∧ U_.heap = h0) (fun _ _ _ _ _ => True) (fun _ U_ o_ U2_ => ∃ v_ L_, o_ = .returned v_ ∧ (Q_rmC321 Z b kb q0 q1 cz h0 n0) v_ U2_.heap L_ ∧ FrameEnd U_ o_ U2_ L_ ({ frames := 3, cells := 2, slots := 9, locals := 64 } : Room).cells ({ frames := 3, cells := 2, slots := 9, locals := 64 } : Room).slots) := by
  refine MetFree.of_bodySF (plainFor_of_name (by first | (simp [plainName, overriddenIn]; done) | decide +kernel : plainName "java/lang/StringUTF16" = true)) hisR ?_
  intro p e s m args below meth c s₁ Bd hml0 hP hK
  obtain ⟨rfl, hZ, hh⟩ := hP
  have hx := Bd.exec
  have hby := Bd.bytes
  have hlk := Bd.notSynchronized
  have hml : c.maxLocals = 6 := hml0
  have hown : s.vm.findClass "java/lang/StringUTF16" = some m.cls := findClass_of_methodNamed Bd.named
  have hnm := (name_of_methodNamed Bd.named Bd.method).1
  have X0 : Stand p l e ({ frames := 3, cells := 2, slots := 9, locals := 64 } : Room) s m #[(.ref b), (.int (0 : Int32)), (.int (2 : Int32))] below meth c s₁ [] 0 0 := Stand.of_body Bd
  have e0 : s₁.heap = h0 := by rw [← hh, Bd.state]; rfl
  have N0 := Fr.nil n0
  show own_Go p e below (own_R s below (Q_rmC321 Z b kb q0 q1 cz h0 n0) ({ frames := 3, cells := 2, slots := 9, locals := 64 } : Room).cells ({ frames := 3, cells := 2, slots := 9, locals := 64 } : Room).slots) (s₁.setTop (entryFrame m #[(.ref b), (.int (0 : Int32)), (.int (2 : Int32))] 6))
  refine own_bk (S' := (s₁.setTop (mkF m 0 #[rv b, iv (0 : Int32), iv (2 : Int32), .unset, .unset, .unset] []))) (fun t_ kont => castTop (ef_rmC321 m (b) ((0 : Int32)) ((2 : Int32))) kont) ?_
  refine own_bk (S' := (s₁.setTop (mkF m 1 #[rv b, iv (0 : Int32), iv (2 : Int32), .unset, .unset, .unset] [(.int (2 : Int32))]))) (fun t_ kont => XS.iloadN X0.here hx rfl (hb hby d14_0) rfl kont) ?_
  obtain ⟨T1, h2, k3, X4, e5, E6, A7, st8⟩ := newP X0 hx hZ (hw _ (List.mem_of_getElem? (i := 107) rfl)) e0 (g := (mkF m 1 #[rv b, iv (0 : Int32), iv (2 : Int32), .unset, .unset, .unset] [(.int (2 : Int32))])) rfl (hb hby d14_1) rfl (by decide : ¬ ((2 : Int32) < (0 : Int32))) (cap := 2) (by decide : (2 : Int32).toNatClampNeg ≤ 2) (by decide) (by decide) (by decide)
  obtain ⟨a9, g10⟩ : ∃ z, z = h0.size := ⟨_, rfl⟩
  rw [← g10] at A7 st8
  have ne12 : b ≠ a9 := Nat.ne_of_lt (Nat.lt_of_lt_of_le VB.lt (Nat.le_of_eq g10.symm))
  have ag13 : n0 ≤ a9 := Nat.le_trans Z0 (Nat.le_of_eq g10.symm)
  have kg14 : h0.size ≤ a9 := Nat.le_trans (Keep.refl h0 []).1 (Nat.le_of_eq g10.symm)
  have V15 := (VB.ext E6)
  have Z16 := Nat.le_trans Z0 E6.1
  have O17 := O.ext E6
  have K18 := (Keep.refl h0 []).ext E6
  have V11 : Arv Z h2 a9 k3 .byte (2 : Int32) [] (.int (0 : Int32)) := (Arv.new A7 (by decide : ¬ ((2 : Int32) < (0 : Int32))))
  have V19 : Arv Z h2 a9 k3 .byte (2 : Int32) [(.int (0 : Int32)), (.int (0 : Int32))] (.int (0 : Int32)) := (V11.pad (pad_rep [] (.int (0 : Int32)) 2))
  refine own_bk (S' := (T1.setTop (mkF m 3 #[rv b, iv (0 : Int32), iv (2 : Int32), .unset, .unset, .unset] [(.ref a9)]))) st8 ?_
  refine own_bk (S' := (T1.setTop (mkF m 4 #[rv b, iv (0 : Int32), iv (2 : Int32), rv a9, .unset, .unset] []))) (fun t_ kont => XS.astoreN X4.here hx rfl (hb hby d14_3) rfl rfl (l' := #[rv b, iv (0 : Int32), iv (2 : Int32), rv a9, .unset, .unset]) rfl kont) ?_
  refine own_bk (S' := (T1.setTop (mkF m 5 #[rv b, iv (0 : Int32), iv (2 : Int32), rv a9, .unset, .unset] [(.ref b)]))) (fun t_ kont => XS.aloadN X4.here hx rfl (hb hby d14_4) rfl rfl kont) ?_
  refine own_bk (S' := (T1.setTop (mkF m 6 #[rv b, iv (0 : Int32), iv (2 : Int32), rv a9, .unset, .unset] [(.int (0 : Int32)), (.ref b)]))) (fun t_ kont => XS.iloadN X4.here hx rfl (hb hby d14_5) rfl kont) ?_
  refine own_bk (S' := (T1.setTop (mkF m 7 #[rv b, iv (0 : Int32), iv (2 : Int32), rv a9, .unset, .unset] [(.ref a9), (.int (0 : Int32)), (.ref b)]))) (fun t_ kont => XS.aloadN X4.here hx rfl (hb hby d14_6) rfl rfl kont) ?_
  refine own_bk (S' := (T1.setTop (mkF m 8 #[rv b, iv (0 : Int32), iv (2 : Int32), rv a9, .unset, .unset] [(.int (0 : Int32)), (.ref a9), (.int (0 : Int32)), (.ref b)]))) (fun t_ kont => XS.iconst X4.here hx rfl (hb hby d14_7) kont) ?_
  refine own_bk (S' := (T1.setTop (mkF m 9 #[rv b, iv (0 : Int32), iv (2 : Int32), rv a9, .unset, .unset] [(.int (2 : Int32)), (.int (0 : Int32)), (.ref a9), (.int (0 : Int32)), (.ref b)]))) (fun t_ kont => XS.iloadN X4.here hx rfl (hb hby d14_8) rfl kont) ?_
  obtain ⟨_, _, ⟨T20, L21, k22, n23⟩, -, X24, ⟨Lc25, hQ26, l27, y28, z29⟩, st30⟩ := Jvm.LawKit.callS X4 hx (y := (⟨"java/lang/StringUTF16", "compress", "([CI[BII)I"⟩ : MethodName)) hown (mvT hZ (hw _ (List.mem_of_getElem? (i := 124) rfl))) (mvT hZ (hw _ (List.mem_of_getElem? (i := 125) rfl))) (mvT hZ (hw _ (List.mem_of_getElem? (i := 122) rfl))) (mvT hZ (hw _ (List.mem_of_getElem? (i := 126) rfl))) (by decide) (backOf (W := 0) (rmC521 l Z a0 hw [] b a9 kb k3 q0 q1 h2 n0 Z16 O17 V15 V19 ne12 ag13 gq0 gq1) hZ (hw _ (List.mem_of_getElem? (i := 126) rfl)) (hw _ (List.mem_of_getElem? (i := 122) rfl)) (by decide) (by decide)) (g := (mkF m 9 #[rv b, iv (0 : Int32), iv (2 : Int32), rv a9, .unset, .unset] [(.int (2 : Int32)), (.int (0 : Int32)), (.ref a9), (.int (0 : Int32)), (.ref b)])) rfl (by rw [hml]; rfl) (argsL := [(.ref b), (.int (0 : Int32)), (.ref a9), (.int (0 : Int32)), (.int (2 : Int32))]) (rest := []) (lenOf (by decide +kernel : parseMethodDescriptor "([CI[BII)I" = some ⟨[(.array .char), .int, (.array .byte), .int, .int], some .int⟩) rfl) rfl (by show 2 * 0 + _ ≤ _; exact Nat.le_of_eq rfl) (hb hby d14_9) (fun _ _ => ⟨rfl, e5, (by decide : 1 + 0 ≤ _), (by decide : 2 + 0 ≤ _)⟩)
  dsimp only [Pt.U, Pt.locs, Pt.cells, Pt.slots] at X24 l27 y28 z29 st30 hQ26
  subst l27 y28 z29
  obtain ⟨rfl, N31, O_, K_, vs_, Vd_⟩ := hQ26
  have N33 := Fr.app N0 N31
  have V34 := (V15.keep K_ (ninS ne12 nin0))
  have Z35 := Nat.le_trans Z16 K_.1
  have O36 := O17.keep K_ (allS ag13 all0)
  have K37 := K18.trans K_ (allS (Or.inr kg14) all0)
  refine own_bk (S' := (T20.setTop (mkF m 12 #[rv b, iv (0 : Int32), iv (2 : Int32), rv a9, .unset, .unset] [(.int (1 : Int32))]))) st30 ?_
  refine own_bk (S' := (T20.setTop (mkF m 14 #[rv b, iv (0 : Int32), iv (2 : Int32), rv a9, iv (1 : Int32), .unset] []))) (fun t_ kont => XS.istore X24.here hx rfl (hb hby d14_12) rfl (l' := #[rv b, iv (0 : Int32), iv (2 : Int32), rv a9, iv (1 : Int32), .unset]) rfl kont) ?_
  refine own_bk (S' := (T20.setTop (mkF m 16 #[rv b, iv (0 : Int32), iv (2 : Int32), rv a9, iv (1 : Int32), .unset] [(.int (1 : Int32))]))) (fun t_ kont => XS.iload X24.here hx rfl (hb hby d14_14) rfl kont) ?_
  refine own_bk (S' := (T20.setTop (mkF m 17 #[rv b, iv (0 : Int32), iv (2 : Int32), rv a9, iv (1 : Int32), .unset] [(.int (2 : Int32)), (.int (1 : Int32))]))) (fun t_ kont => XS.iloadN X24.here hx rfl (hb hby d14_16) rfl kont) ?_
  refine own_bk (S' := (T20.setTop (mkF m 20 #[rv b, iv (0 : Int32), iv (2 : Int32), rv a9, iv (1 : Int32), .unset] []))) (fun t_ kont => XS.icmpNo X24.here hx rfl (hb hby d14_17) rfl (feq (by decide : ¬ ((1 : Int32)) = ((2 : Int32)))).1 kont) ?_
  refine own_bk (S' := (T20.setTop (mkF m 21 #[rv b, iv (0 : Int32), iv (2 : Int32), rv a9, iv (1 : Int32), .unset] [(.ref b)]))) (fun t_ kont => XS.aloadN X24.here hx rfl (hb hby d14_20) rfl rfl kont) ?_
  refine own_bk (S' := (T20.setTop (mkF m 22 #[rv b, iv (0 : Int32), iv (2 : Int32), rv a9, iv (1 : Int32), .unset] [(.int (0 : Int32)), (.ref b)]))) (fun t_ kont => XS.iloadN X24.here hx rfl (hb hby d14_21) rfl kont) ?_
  refine own_bk (S' := (T20.setTop (mkF m 23 #[rv b, iv (0 : Int32), iv (2 : Int32), rv a9, iv (1 : Int32), .unset] [(.int (2 : Int32)), (.int (0 : Int32)), (.ref b)]))) (fun t_ kont => XS.iloadN X24.here hx rfl (hb hby d14_22) rfl kont) ?_
  obtain ⟨_, _, ⟨T38, L39, k40, n41⟩, -, X42, ⟨Lc43, hQ44, l45, y46, z47⟩, st48⟩ := Jvm.LawKit.callS X24 hx (y := (⟨"java/lang/StringUTF16", "toBytes", "([CII)[B"⟩ : MethodName)) hown (mvT hZ (hw _ (List.mem_of_getElem? (i := 130) rfl))) (mvT hZ (hw _ (List.mem_of_getElem? (i := 131) rfl))) (mvT hZ (hw _ (List.mem_of_getElem? (i := 122) rfl))) (mvT hZ (hw _ (List.mem_of_getElem? (i := 132) rfl))) (by decide) (backOf (W := 0) (rmTB2 l Z a0 hw [] b kb q0 q1 cz T20.heap n0 Z35 O_ SU V34) hZ (hw _ (List.mem_of_getElem? (i := 132) rfl)) (hw _ (List.mem_of_getElem? (i := 122) rfl)) (by decide) (by decide)) (g := (mkF m 23 #[rv b, iv (0 : Int32), iv (2 : Int32), rv a9, iv (1 : Int32), .unset] [(.int (2 : Int32)), (.int (0 : Int32)), (.ref b)])) rfl (by rw [hml]; rfl) (argsL := [(.ref b), (.int (0 : Int32)), (.int (2 : Int32))]) (rest := []) (lenOf (by decide +kernel : parseMethodDescriptor "([CII)[B" = some ⟨[(.array .char), .int, .int], some (.array .byte)⟩) rfl) rfl (by show 2 * 0 + _ ≤ _; exact Nat.le_of_eq rfl) (hb hby d14_23) (fun _ _ => ⟨rfl, rfl, (by decide : 1 + 1 ≤ _), (by decide : 2 + 6 ≤ _)⟩)
  dsimp only [Pt.U, Pt.locs, Pt.cells, Pt.slots] at X42 l45 y46 z47 st48 hQ44
  subst l45 y46 z47
  obtain ⟨N49, O2_, K2_, r_, kr_, rfl, rg_, Vr_⟩ := hQ44
  have N51 := Fr.app N33 N49
  have V52 := (V34.keep K2_ nin0)
  have Z53 := Nat.le_trans Z35 K2_.1
  have O54 := O_.keep K2_ all0
  have K55 := K37.trans K2_ all0
  refine own_bk (S' := (T38.setTop (mkF m 26 #[rv b, iv (0 : Int32), iv (2 : Int32), rv a9, iv (1 : Int32), .unset] [(.ref r_)]))) st48 ?_
  refine own_bk (S' := (T38.setTop (mkF m 28 #[rv b, iv (0 : Int32), iv (2 : Int32), rv a9, iv (1 : Int32), rv r_] []))) (fun t_ kont => XS.astore X42.here hx rfl (hb hby d14_26) rfl rfl (l' := #[rv b, iv (0 : Int32), iv (2 : Int32), rv a9, iv (1 : Int32), rv r_]) rfl kont) ?_
  refine own_bk (S' := (T38.setTop (mkF m 30 #[rv b, iv (0 : Int32), iv (2 : Int32), rv a9, iv (1 : Int32), rv r_] [(.ref r_)]))) (fun t_ kont => XS.aload X42.here hx rfl (hb hby d14_28) rfl rfl kont) ?_
  refine own_bk (S' := (T38.setTop (mkF m 32 #[rv b, iv (0 : Int32), iv (2 : Int32), rv a9, iv (1 : Int32), rv r_] [(.int (1 : Int32)), (.ref r_)]))) (fun t_ kont => XS.iload X42.here hx rfl (hb hby d14_30) rfl kont) ?_
  obtain ⟨_, _, ⟨T56, L57, k58, n59⟩, -, X60, ⟨Lc61, hQ62, l63, y64, z65⟩, st66⟩ := Jvm.LawKit.callS X42 hx (y := (⟨"java/lang/StringUTF16", "getChar", "([BI)C"⟩ : MethodName)) hown (mvT hZ (hw _ (List.mem_of_getElem? (i := 146) rfl))) (mvT hZ (hw _ (List.mem_of_getElem? (i := 147) rfl))) (mvT hZ (hw _ (List.mem_of_getElem? (i := 122) rfl))) (mvT hZ (hw _ (List.mem_of_getElem? (i := 148) rfl))) (by decide) (backOf (W := 0) (rmGC21 l Z a0 hw [] r_ kr_ q1 cz (.int (own_lo q0)) (.int (own_hi q0)) T38.heap n0 Z53 O2_ SU Vr_ lq1 uq1) hZ (hw _ (List.mem_of_getElem? (i := 148) rfl)) (hw _ (List.mem_of_getElem? (i := 122) rfl)) (by decide) (by decide)) (g := (mkF m 32 #[rv b, iv (0 : Int32), iv (2 : Int32), rv a9, iv (1 : Int32), rv r_] [(.int (1 : Int32)), (.ref r_)])) rfl (by rw [hml]; rfl) (argsL := [(.ref r_), (.int (1 : Int32))]) (rest := []) (lenOf (by decide +kernel : parseMethodDescriptor "([BI)C" = some ⟨[(.array .byte), .int], some .char⟩) rfl) rfl (by show 2 * 0 + _ ≤ _; exact Nat.le_of_eq rfl) (hb hby d14_32) (fun _ _ => ⟨rfl, rfl, (by decide : 2 + 0 ≤ _), (by decide : 8 + 0 ≤ _)⟩)
  dsimp only [Pt.U, Pt.locs, Pt.cells, Pt.slots] at X60 l63 y64 z65 st66 hQ62
  subst l63 y64 z65
  obtain ⟨rfl, N67, e68⟩ := hQ62
  have N69 := Fr.app N51 N67
  refine own_bk (S' := (T56.setTop (mkF m 35 #[rv b, iv (0 : Int32), iv (2 : Int32), rv a9, iv (1 : Int32), rv r_] [(.int q1)]))) st66 ?_
  refine own_bk (S' := (T56.setTop (mkF m 38 #[rv b, iv (0 : Int32), iv (2 : Int32), rv a9, iv (1 : Int32), rv r_] [(.int (255 : Int32)), (.int q1)]))) (fun t_ kont => XS.sipush X60.here hx rfl (hb hby d14_35) kont) ?_
  refine own_bk (S' := (T56.setTop (mkF m 54 #[rv b, iv (0 : Int32), iv (2 : Int32), rv a9, iv (1 : Int32), rv r_] []))) (fun t_ kont => XS.icmpYes X60.here hx rfl (pc0 := 38) (pc' := 54) rfl (hb hby d14_38) rfl (tlt (gq1)).2.2.1 (by decide) (by decide) kont) ?_
  refine own_bk (S' := (T56.setTop (mkF m 56 #[rv b, iv (0 : Int32), iv (2 : Int32), rv a9, iv (1 : Int32), rv r_] [(.ref r_)]))) (fun t_ kont => XS.aload X60.here hx rfl (hb hby d14_54) rfl rfl kont) ?_
  exact own_retA X60 hx hlk Bd.returns rfl rfl rfl (hb hby d14_56) (by rw [e68]; exact ⟨N69, O2_, K55, _, _, _, rfl, Vr_⟩) (by decide) (by decide)
theorem ef_rmC322 (m : MethodId) (x0 : Addr) (x1 : Int32) (x2 : Int32) : entryFrame m #[(.ref x0), (.int x1), (.int x2)] 6 = mkF m 0 #[.val (.ref x0), .val (.int x1), .val (.int x2), .unset, .unset, .unset] [] := by first | (simp [entryFrame, mkF, argsToLocals, Value.category, maxLocals]; done) | rfl
def Q_rmC322 (Z : State) (b : Addr) (kb : ClassId) (q0 q1 cz : Int32) (h0 : Heap) (n0 : Nat) (v : Option Value) (h : Heap) (L : List Loc) : Prop := Fr n0 L ∧ Old Z n0 h ∧ Keep h0 h [] ∧ ∃ r kr vs, v = some (.ref r) ∧ Arv Z h r kr .byte (2 : Int32) vs (.int (0 : Int32))
set_option maxRecDepth 65536 in
set_option maxHeartbeats 40000000 in
theorem rmC322 (l : Launch) (Z : State) (a0 : Array Value) (hw : ∀ d ∈ tables_1, d.before a0 Z = true) (ws : List Jvm.Cond) (b : Addr) (kb : ClassId) (q0 q1 cz : Int32) (h0 : Heap) (n0 : Nat) (Z0 : n0 ≤ h0.size) (O : Old Z n0 h0) (SU : own_St Z cz) (VB : Arv Z h0 b kb .char (2 : Int32) [(.int q0), (.int q1)] (.int (0 : Int32))) (lq0 : ¬ q0 < 0) (uq0 : ¬ (65535 : Int32) < q0) (lq1 : ¬ q1 < 0) (uq1 : ¬ (65535 : Int32) < q1) (gq0 : ¬ (255 : Int32) < q0) (gq1 : ¬ (255 : Int32) < q1) :
    MetFree l (⟨"java/lang/StringUTF16", "compress", "([CII)[B"⟩ : MethodName) (head1 (Jvm.Cond.code (⟨"java/lang/StringUTF16", "compress", "([CII)[B"⟩ : MethodName) jdk_52_method_16_code 6 (some (.array .byte)) :: ws) ({ frames := 3, cells := 2, slots := 9, locals := 64 } : Room)) (fun as_ U_ => as_ = #[(.ref b), (.int (0 : Int32)), (.int (2 : Int32))] ∧ Z.Warmed39 U_.vm ∧ U_.heap = h0) (fun _ _ _ _ _ => True) (fun _ U_ o_ U2_ => ∃ v_ L_, o_ = .returned v_ ∧ (Q_rmC322 Z b kb q0 q1 cz h0 n0) v_ U2_.heap L_ ∧ FrameEnd U_ o_ U2_ L_ ({ frames := 3, cells := 2, slots := 9, locals := 64 } : Room).cells ({ frames := 3, cells := 2, slots := 9, locals := 64 } : Room).slots) := by
  refine MetFree.of_bodySF (plainFor_of_name (by first | (simp [plainName, overriddenIn]; done) | decide +kernel : plainName "java/lang/StringUTF16" = true)) hisR ?_
  intro p e s m args below meth c s₁ Bd hml0 hP hK
  obtain ⟨rfl, hZ, hh⟩ := hP
  have hx := Bd.exec
  have hby := Bd.bytes
  have hlk := Bd.notSynchronized
  have hml : c.maxLocals = 6 := hml0
  have hown : s.vm.findClass "java/lang/StringUTF16" = some m.cls := findClass_of_methodNamed Bd.named
  have hnm := (name_of_methodNamed Bd.named Bd.method).1
  have X0 : Stand p l e ({ frames := 3, cells := 2, slots := 9, locals := 64 } : Room) s m #[(.ref b), (.int (0 : Int32)), (.int (2 : Int32))] below meth c s₁ [] 0 0 := Stand.of_body Bd
  have e0 : s₁.heap = h0 := by rw [← hh, Bd.state]; rfl
  have N0 := Fr.nil n0
  show own_Go p e below (own_R s below (Q_rmC322 Z b kb q0 q1 cz h0 n0) ({ frames := 3, cells := 2, slots := 9, locals := 64 } : Room).cells ({ frames := 3, cells := 2, slots := 9, locals := 64 } : Room).slots) (s₁.setTop (entryFrame m #[(.ref b), (.int (0 : Int32)), (.int (2 : Int32))] 6))
  refine own_bk (S' := (s₁.setTop (mkF m 0 #[rv b, iv (0 : Int32), iv (2 : Int32), .unset, .unset, .unset] []))) (fun t_ kont => castTop (ef_rmC322 m (b) ((0 : Int32)) ((2 : Int32))) kont) ?_
  refine own_bk (S' := (s₁.setTop (mkF m 1 #[rv b, iv (0 : Int32), iv (2 : Int32), .unset, .unset, .unset] [(.int (2 : Int32))]))) (fun t_ kont => XS.iloadN X0.here hx rfl (hb hby d14_0) rfl kont) ?_
  obtain ⟨T1, h2, k3, X4, e5, E6, A7, st8⟩ := newP X0 hx hZ (hw _ (List.mem_of_getElem? (i := 107) rfl)) e0 (g := (mkF m 1 #[rv b, iv (0 : Int32), iv (2 : Int32), .unset, .unset, .unset] [(.int (2 : Int32))])) rfl (hb hby d14_1) rfl (by decide : ¬ ((2 : Int32) < (0 : Int32))) (cap := 2) (by decide : (2 : Int32).toNatClampNeg ≤ 2) (by decide) (by decide) (by decide)
  obtain ⟨a9, g10⟩ : ∃ z, z = h0.size := ⟨_, rfl⟩
  rw [← g10] at A7 st8
  have ne12 : b ≠ a9 := Nat.ne_of_lt (Nat.lt_of_lt_of_le VB.lt (Nat.le_of_eq g10.symm))
  have ag13 : n0 ≤ a9 := Nat.le_trans Z0 (Nat.le_of_eq g10.symm)
  have kg14 : h0.size ≤ a9 := Nat.le_trans (Keep.refl h0 []).1 (Nat.le_of_eq g10.symm)
  have V15 := (VB.ext E6)
  have Z16 := Nat.le_trans Z0 E6.1
  have O17 := O.ext E6
  have K18 := (Keep.refl h0 []).ext E6
  have V11 : Arv Z h2 a9 k3 .byte (2 : Int32) [] (.int (0 : Int32)) := (Arv.new A7 (by decide : ¬ ((2 : Int32) < (0 : Int32))))
  have V19 : Arv Z h2 a9 k3 .byte (2 : Int32) [(.int (0 : Int32)), (.int (0 : Int32))] (.int (0 : Int32)) := (V11.pad (pad_rep [] (.int (0 : Int32)) 2))
  refine own_bk (S' := (T1.setTop (mkF m 3 #[rv b, iv (0 : Int32), iv (2 : Int32), .unset, .unset, .unset] [(.ref a9)]))) st8 ?_
  refine own_bk (S' := (T1.setTop (mkF m 4 #[rv b, iv (0 : Int32), iv (2 : Int32), rv a9, .unset, .unset] []))) (fun t_ kont => XS.astoreN X4.here hx rfl (hb hby d14_3) rfl rfl (l' := #[rv b, iv (0 : Int32), iv (2 : Int32), rv a9, .unset, .unset]) rfl kont) ?_
  refine own_bk (S' := (T1.setTop (mkF m 5 #[rv b, iv (0 : Int32), iv (2 : Int32), rv a9, .unset, .unset] [(.ref b)]))) (fun t_ kont => XS.aloadN X4.here hx rfl (hb hby d14_4) rfl rfl kont) ?_
  refine own_bk (S' := (T1.setTop (mkF m 6 #[rv b, iv (0 : Int32), iv (2 : Int32), rv a9, .unset, .unset] [(.int (0 : Int32)), (.ref b)]))) (fun t_ kont => XS.iloadN X4.here hx rfl (hb hby d14_5) rfl kont) ?_
  refine own_bk (S' := (T1.setTop (mkF m 7 #[rv b, iv (0 : Int32), iv (2 : Int32), rv a9, .unset, .unset] [(.ref a9), (.int (0 : Int32)), (.ref b)]))) (fun t_ kont => XS.aloadN X4.here hx rfl (hb hby d14_6) rfl rfl kont) ?_
  refine own_bk (S' := (T1.setTop (mkF m 8 #[rv b, iv (0 : Int32), iv (2 : Int32), rv a9, .unset, .unset] [(.int (0 : Int32)), (.ref a9), (.int (0 : Int32)), (.ref b)]))) (fun t_ kont => XS.iconst X4.here hx rfl (hb hby d14_7) kont) ?_
  refine own_bk (S' := (T1.setTop (mkF m 9 #[rv b, iv (0 : Int32), iv (2 : Int32), rv a9, .unset, .unset] [(.int (2 : Int32)), (.int (0 : Int32)), (.ref a9), (.int (0 : Int32)), (.ref b)]))) (fun t_ kont => XS.iloadN X4.here hx rfl (hb hby d14_8) rfl kont) ?_
  obtain ⟨_, _, ⟨T20, L21, k22, n23⟩, -, X24, ⟨Lc25, hQ26, l27, y28, z29⟩, st30⟩ := Jvm.LawKit.callS X4 hx (y := (⟨"java/lang/StringUTF16", "compress", "([CI[BII)I"⟩ : MethodName)) hown (mvT hZ (hw _ (List.mem_of_getElem? (i := 124) rfl))) (mvT hZ (hw _ (List.mem_of_getElem? (i := 125) rfl))) (mvT hZ (hw _ (List.mem_of_getElem? (i := 122) rfl))) (mvT hZ (hw _ (List.mem_of_getElem? (i := 126) rfl))) (by decide) (backOf (W := 0) (rmC522 l Z a0 hw [] b a9 kb k3 q0 q1 h2 n0 Z16 O17 V15 V19 ne12 ag13 gq0 gq1) hZ (hw _ (List.mem_of_getElem? (i := 126) rfl)) (hw _ (List.mem_of_getElem? (i := 122) rfl)) (by decide) (by decide)) (g := (mkF m 9 #[rv b, iv (0 : Int32), iv (2 : Int32), rv a9, .unset, .unset] [(.int (2 : Int32)), (.int (0 : Int32)), (.ref a9), (.int (0 : Int32)), (.ref b)])) rfl (by rw [hml]; rfl) (argsL := [(.ref b), (.int (0 : Int32)), (.ref a9), (.int (0 : Int32)), (.int (2 : Int32))]) (rest := []) (lenOf (by decide +kernel : parseMethodDescriptor "([CI[BII)I" = some ⟨[(.array .char), .int, (.array .byte), .int, .int], some .int⟩) rfl) rfl (by show 2 * 0 + _ ≤ _; exact Nat.le_of_eq rfl) (hb hby d14_9) (fun _ _ => ⟨rfl, e5, (by decide : 1 + 0 ≤ _), (by decide : 2 + 0 ≤ _)⟩)
  dsimp only [Pt.U, Pt.locs, Pt.cells, Pt.slots] at X24 l27 y28 z29 st30 hQ26
  subst l27 y28 z29
  obtain ⟨rfl, N31, O_, K_, vs_, Vd_⟩ := hQ26
  have N33 := Fr.app N0 N31
  have V34 := (V15.keep K_ (ninS ne12 nin0))
  have Z35 := Nat.le_trans Z16 K_.1
  have O36 := O17.keep K_ (allS ag13 all0)
  have K37 := K18.trans K_ (allS (Or.inr kg14) all0)
  refine own_bk (S' := (T20.setTop (mkF m 12 #[rv b, iv (0 : Int32), iv (2 : Int32), rv a9, .unset, .unset] [(.int (2 : Int32))]))) st30 ?_
  refine own_bk (S' := (T20.setTop (mkF m 14 #[rv b, iv (0 : Int32), iv (2 : Int32), rv a9, iv (2 : Int32), .unset] []))) (fun t_ kont => XS.istore X24.here hx rfl (hb hby d14_12) rfl (l' := #[rv b, iv (0 : Int32), iv (2 : Int32), rv a9, iv (2 : Int32), .unset]) rfl kont) ?_
  refine own_bk (S' := (T20.setTop (mkF m 16 #[rv b, iv (0 : Int32), iv (2 : Int32), rv a9, iv (2 : Int32), .unset] [(.int (2 : Int32))]))) (fun t_ kont => XS.iload X24.here hx rfl (hb hby d14_14) rfl kont) ?_
  refine own_bk (S' := (T20.setTop (mkF m 17 #[rv b, iv (0 : Int32), iv (2 : Int32), rv a9, iv (2 : Int32), .unset] [(.int (2 : Int32)), (.int (2 : Int32))]))) (fun t_ kont => XS.iloadN X24.here hx rfl (hb hby d14_16) rfl kont) ?_
  refine own_bk (S' := (T20.setTop (mkF m 57 #[rv b, iv (0 : Int32), iv (2 : Int32), rv a9, iv (2 : Int32), .unset] []))) (fun t_ kont => XS.icmpYes X24.here hx rfl (pc0 := 17) (pc' := 57) rfl (hb hby d14_17) rfl (teq (by decide : ((2 : Int32)) = ((2 : Int32)))).1 (by decide) (by decide) kont) ?_
  refine own_bk (S' := (T20.setTop (mkF m 58 #[rv b, iv (0 : Int32), iv (2 : Int32), rv a9, iv (2 : Int32), .unset] [(.ref a9)]))) (fun t_ kont => XS.aloadN X24.here hx rfl (hb hby d14_57) rfl rfl kont) ?_
  exact own_retA X24 hx hlk Bd.returns rfl rfl rfl (hb hby d14_58) ⟨N33, O_, K37, _, _, _, rfl, Vd_⟩ (by decide) (by decide)
theorem ef_rmC330 (m : MethodId) (x0 : Addr) (x1 : Int32) (x2 : Int32) : entryFrame m #[(.ref x0), (.int x1), (.int x2)] 6 = mkF m 0 #[.val (.ref x0), .val (.int x1), .val (.int x2), .unset, .unset, .unset] [] := by first | (simp [entryFrame, mkF, argsToLocals, Value.category, maxLocals]; done) | rfl
def Q_rmC330 (Z : State) (b : Addr) (kb : ClassId) (q0 q1 q2 cz : Int32) (h0 : Heap) (n0 : Nat) (v : Option Value) (h : Heap) (L : List Loc) : Prop := Fr n0 L ∧ Old Z n0 h ∧ Keep h0 h [] ∧ ∃ r kr vs, v = some (.ref r) ∧ Arv Z h r kr .byte (6 : Int32) vs (.int (0 : Int32))
set_option maxRecDepth 65536 in
set_option maxHeartbeats 40000000 in
theorem rmC330 (l : Launch) (Z : State) (a0 : Array Value) (hw : ∀ d ∈ tables_1, d.before a0 Z = true) (ws : List Jvm.Cond) (b : Addr) (kb : ClassId) (q0 q1 q2 cz : Int32) (h0 : Heap) (n0 : Nat) (Z0 : n0 ≤ h0.size) (O : Old Z n0 h0) (SU : own_St Z cz) (VB : Arv Z h0 b kb .char (3 : Int32) [(.int q0), (.int q1), (.int q2)] (.int (0 : Int32))) (lq0 : ¬ q0 < 0) (uq0 : ¬ (65535 : Int32) < q0) (lq1 : ¬ q1 < 0) (uq1 : ¬ (65535 : Int32) < q1) (lq2 : ¬ q2 < 0) (uq2 : ¬ (65535 : Int32) < q2)  (gq0 : (255 : Int32) < q0) :
    MetFree l (⟨"java/lang/StringUTF16", "compress", "([CII)[B"⟩ : MethodName) (head1 (Jvm.Cond.code (⟨"java/lang/StringUTF16", "compress", "([CII)[B"⟩ : MethodName) jdk_52_method_16_code 6 (some (.array .byte)) :: ws) ({ frames := 3, cells := 2, slots := 9, locals := 64 } : Room)) (fun as_ U_ => as_ = #[(.ref b), (.int (0 : Int32)), (.int (3 : Int32))] ∧ Z.Warmed39 U_.vm ∧ U_.heap = h0) (fun _ _ _ _ _ => True) (fun _ U_ o_ U2_ => ∃ v_ L_, o_ = .returned v_ ∧ (Q_rmC330 Z b kb q0 q1 q2 cz h0 n0) v_ U2_.heap L_ ∧ FrameEnd U_ o_ U2_ L_ ({ frames := 3, cells := 2, slots := 9, locals := 64 } : Room).cells ({ frames := 3, cells := 2, slots := 9, locals := 64 } : Room).slots) := by
  refine MetFree.of_bodySF (plainFor_of_name (by first | (simp [plainName, overriddenIn]; done) | decide +kernel : plainName "java/lang/StringUTF16" = true)) hisR ?_
  intro p e s m args below meth c s₁ Bd hml0 hP hK
  obtain ⟨rfl, hZ, hh⟩ := hP
  have hx := Bd.exec
  have hby := Bd.bytes
  have hlk := Bd.notSynchronized
  have hml : c.maxLocals = 6 := hml0
  have hown : s.vm.findClass "java/lang/StringUTF16" = some m.cls := findClass_of_methodNamed Bd.named
  have hnm := (name_of_methodNamed Bd.named Bd.method).1
  have X0 : Stand p l e ({ frames := 3, cells := 2, slots := 9, locals := 64 } : Room) s m #[(.ref b), (.int (0 : Int32)), (.int (3 : Int32))] below meth c s₁ [] 0 0 := Stand.of_body Bd
  have e0 : s₁.heap = h0 := by rw [← hh, Bd.state]; rfl
  have N0 := Fr.nil n0
  show own_Go p e below (own_R s below (Q_rmC330 Z b kb q0 q1 q2 cz h0 n0) ({ frames := 3, cells := 2, slots := 9, locals := 64 } : Room).cells ({ frames := 3, cells := 2, slots := 9, locals := 64 } : Room).slots) (s₁.setTop (entryFrame m #[(.ref b), (.int (0 : Int32)), (.int (3 : Int32))] 6))
  refine own_bk (S' := (s₁.setTop (mkF m 0 #[rv b, iv (0 : Int32), iv (3 : Int32), .unset, .unset, .unset] []))) (fun t_ kont => castTop (ef_rmC330 m (b) ((0 : Int32)) ((3 : Int32))) kont) ?_
  refine own_bk (S' := (s₁.setTop (mkF m 1 #[rv b, iv (0 : Int32), iv (3 : Int32), .unset, .unset, .unset] [(.int (3 : Int32))]))) (fun t_ kont => XS.iloadN X0.here hx rfl (hb hby d14_0) rfl kont) ?_
  obtain ⟨T1, h2, k3, X4, e5, E6, A7, st8⟩ := newP X0 hx hZ (hw _ (List.mem_of_getElem? (i := 107) rfl)) e0 (g := (mkF m 1 #[rv b, iv (0 : Int32), iv (3 : Int32), .unset, .unset, .unset] [(.int (3 : Int32))])) rfl (hb hby d14_1) rfl (by decide : ¬ ((3 : Int32) < (0 : Int32))) (cap := 3) (by decide : (3 : Int32).toNatClampNeg ≤ 3) (by decide) (by decide) (by decide)
  obtain ⟨a9, g10⟩ : ∃ z, z = h0.size := ⟨_, rfl⟩
  rw [← g10] at A7 st8
  have ne12 : b ≠ a9 := Nat.ne_of_lt (Nat.lt_of_lt_of_le VB.lt (Nat.le_of_eq g10.symm))
  have ag13 : n0 ≤ a9 := Nat.le_trans Z0 (Nat.le_of_eq g10.symm)
  have kg14 : h0.size ≤ a9 := Nat.le_trans (Keep.refl h0 []).1 (Nat.le_of_eq g10.symm)
  have V15 := (VB.ext E6)
  have Z16 := Nat.le_trans Z0 E6.1
  have O17 := O.ext E6
  have K18 := (Keep.refl h0 []).ext E6
  have V11 : Arv Z h2 a9 k3 .byte (3 : Int32) [] (.int (0 : Int32)) := (Arv.new A7 (by decide : ¬ ((3 : Int32) < (0 : Int32))))
  have V19 : Arv Z h2 a9 k3 .byte (3 : Int32) [(.int (0 : Int32)), (.int (0 : Int32)), (.int (0 : Int32))] (.int (0 : Int32)) := (V11.pad (pad_rep [] (.int (0 : Int32)) 3))
  refine own_bk (S' := (T1.setTop (mkF m 3 #[rv b, iv (0 : Int32), iv (3 : Int32), .unset, .unset, .unset] [(.ref a9)]))) st8 ?_
  refine own_bk (S' := (T1.setTop (mkF m 4 #[rv b, iv (0 : Int32), iv (3 : Int32), rv a9, .unset, .unset] []))) (fun t_ kont => XS.astoreN X4.here hx rfl (hb hby d14_3) rfl rfl (l' := #[rv b, iv (0 : Int32), iv (3 : Int32), rv a9, .unset, .unset]) rfl kont) ?_
  refine own_bk (S' := (T1.setTop (mkF m 5 #[rv b, iv (0 : Int32), iv (3 : Int32), rv a9, .unset, .unset] [(.ref b)]))) (fun t_ kont => XS.aloadN X4.here hx rfl (hb hby d14_4) rfl rfl kont) ?_
  refine own_bk (S' := (T1.setTop (mkF m 6 #[rv b, iv (0 : Int32), iv (3 : Int32), rv a9, .unset, .unset] [(.int (0 : Int32)), (.ref b)]))) (fun t_ kont => XS.iloadN X4.here hx rfl (hb hby d14_5) rfl kont) ?_
  refine own_bk (S' := (T1.setTop (mkF m 7 #[rv b, iv (0 : Int32), iv (3 : Int32), rv a9, .unset, .unset] [(.ref a9), (.int (0 : Int32)), (.ref b)]))) (fun t_ kont => XS.aloadN X4.here hx rfl (hb hby d14_6) rfl rfl kont) ?_
  refine own_bk (S' := (T1.setTop (mkF m 8 #[rv b, iv (0 : Int32), iv (3 : Int32), rv a9, .unset, .unset] [(.int (0 : Int32)), (.ref a9), (.int (0 : Int32)), (.ref b)]))) (fun t_ kont => XS.iconst X4.here hx rfl (hb hby d14_7) kont) ?_
  refine own_bk (S' := (T1.setTop (mkF m 9 #[rv b, iv (0 : Int32), iv (3 : Int32), rv a9, .unset, .unset] [(.int (3 : Int32)), (.int (0 : Int32)), (.ref a9), (.int (0 : Int32)), (.ref b)]))) (fun t_ kont => XS.iloadN X4.here hx rfl (hb hby d14_8) rfl kont) ?_
  obtain ⟨_, _, ⟨T20, L21, k22, n23⟩, -, X24, ⟨Lc25, hQ26, l27, y28, z29⟩, st30⟩ := Jvm.LawKit.callS X4 hx (y := (⟨"java/lang/StringUTF16", "compress", "([CI[BII)I"⟩ : MethodName)) hown (mvT hZ (hw _ (List.mem_of_getElem? (i := 124) rfl))) (mvT hZ (hw _ (List.mem_of_getElem? (i := 125) rfl))) (mvT hZ (hw _ (List.mem_of_getElem? (i := 122) rfl))) (mvT hZ (hw _ (List.mem_of_getElem? (i := 126) rfl))) (by decide) (backOf (W := 0) (rmC530 l Z a0 hw [] b a9 kb k3 q0 q1 q2 h2 n0 Z16 O17 V15 V19 ne12 ag13 gq0) hZ (hw _ (List.mem_of_getElem? (i := 126) rfl)) (hw _ (List.mem_of_getElem? (i := 122) rfl)) (by decide) (by decide)) (g := (mkF m 9 #[rv b, iv (0 : Int32), iv (3 : Int32), rv a9, .unset, .unset] [(.int (3 : Int32)), (.int (0 : Int32)), (.ref a9), (.int (0 : Int32)), (.ref b)])) rfl (by rw [hml]; rfl) (argsL := [(.ref b), (.int (0 : Int32)), (.ref a9), (.int (0 : Int32)), (.int (3 : Int32))]) (rest := []) (lenOf (by decide +kernel : parseMethodDescriptor "([CI[BII)I" = some ⟨[(.array .char), .int, (.array .byte), .int, .int], some .int⟩) rfl) rfl (by show 2 * 0 + _ ≤ _; exact Nat.le_of_eq rfl) (hb hby d14_9) (fun _ _ => ⟨rfl, e5, (by decide : 1 + 0 ≤ _), (by decide : 3 + 0 ≤ _)⟩)
  dsimp only [Pt.U, Pt.locs, Pt.cells, Pt.slots] at X24 l27 y28 z29 st30 hQ26
  subst l27 y28 z29
  obtain ⟨rfl, N31, O_, K_, vs_, Vd_⟩ := hQ26
  have N33 := Fr.app N0 N31
  have V34 := (V15.keep K_ (ninS ne12 nin0))
  have Z35 := Nat.le_trans Z16 K_.1
  have O36 := O17.keep K_ (allS ag13 all0)
  have K37 := K18.trans K_ (allS (Or.inr kg14) all0)
  refine own_bk (S' := (T20.setTop (mkF m 12 #[rv b, iv (0 : Int32), iv (3 : Int32), rv a9, .unset, .unset] [(.int (0 : Int32))]))) st30 ?_
  refine own_bk (S' := (T20.setTop (mkF m 14 #[rv b, iv (0 : Int32), iv (3 : Int32), rv a9, iv (0 : Int32), .unset] []))) (fun t_ kont => XS.istore X24.here hx rfl (hb hby d14_12) rfl (l' := #[rv b, iv (0 : Int32), iv (3 : Int32), rv a9, iv (0 : Int32), .unset]) rfl kont) ?_
  refine own_bk (S' := (T20.setTop (mkF m 16 #[rv b, iv (0 : Int32), iv (3 : Int32), rv a9, iv (0 : Int32), .unset] [(.int (0 : Int32))]))) (fun t_ kont => XS.iload X24.here hx rfl (hb hby d14_14) rfl kont) ?_
  refine own_bk (S' := (T20.setTop (mkF m 17 #[rv b, iv (0 : Int32), iv (3 : Int32), rv a9, iv (0 : Int32), .unset] [(.int (3 : Int32)), (.int (0 : Int32))]))) (fun t_ kont => XS.iloadN X24.here hx rfl (hb hby d14_16) rfl kont) ?_
  refine own_bk (S' := (T20.setTop (mkF m 20 #[rv b, iv (0 : Int32), iv (3 : Int32), rv a9, iv (0 : Int32), .unset] []))) (fun t_ kont => XS.icmpNo X24.here hx rfl (hb hby d14_17) rfl (feq (by decide : ¬ ((0 : Int32)) = ((3 : Int32)))).1 kont) ?_
  refine own_bk (S' := (T20.setTop (mkF m 21 #[rv b, iv (0 : Int32), iv (3 : Int32), rv a9, iv (0 : Int32), .unset] [(.ref b)]))) (fun t_ kont => XS.aloadN X24.here hx rfl (hb hby d14_20) rfl rfl kont) ?_
  refine own_bk (S' := (T20.setTop (mkF m 22 #[rv b, iv (0 : Int32), iv (3 : Int32), rv a9, iv (0 : Int32), .unset] [(.int (0 : Int32)), (.ref b)]))) (fun t_ kont => XS.iloadN X24.here hx rfl (hb hby d14_21) rfl kont) ?_
  refine own_bk (S' := (T20.setTop (mkF m 23 #[rv b, iv (0 : Int32), iv (3 : Int32), rv a9, iv (0 : Int32), .unset] [(.int (3 : Int32)), (.int (0 : Int32)), (.ref b)]))) (fun t_ kont => XS.iloadN X24.here hx rfl (hb hby d14_22) rfl kont) ?_
  obtain ⟨_, _, ⟨T38, L39, k40, n41⟩, -, X42, ⟨Lc43, hQ44, l45, y46, z47⟩, st48⟩ := Jvm.LawKit.callS X24 hx (y := (⟨"java/lang/StringUTF16", "toBytes", "([CII)[B"⟩ : MethodName)) hown (mvT hZ (hw _ (List.mem_of_getElem? (i := 130) rfl))) (mvT hZ (hw _ (List.mem_of_getElem? (i := 131) rfl))) (mvT hZ (hw _ (List.mem_of_getElem? (i := 122) rfl))) (mvT hZ (hw _ (List.mem_of_getElem? (i := 132) rfl))) (by decide) (backOf (W := 0) (rmTB3 l Z a0 hw [] b kb q0 q1 q2 cz T20.heap n0 Z35 O_ SU V34) hZ (hw _ (List.mem_of_getElem? (i := 132) rfl)) (hw _ (List.mem_of_getElem? (i := 122) rfl)) (by decide) (by decide)) (g := (mkF m 23 #[rv b, iv (0 : Int32), iv (3 : Int32), rv a9, iv (0 : Int32), .unset] [(.int (3 : Int32)), (.int (0 : Int32)), (.ref b)])) rfl (by rw [hml]; rfl) (argsL := [(.ref b), (.int (0 : Int32)), (.int (3 : Int32))]) (rest := []) (lenOf (by decide +kernel : parseMethodDescriptor "([CII)[B" = some ⟨[(.array .char), .int, .int], some (.array .byte)⟩) rfl) rfl (by show 2 * 0 + _ ≤ _; exact Nat.le_of_eq rfl) (hb hby d14_23) (fun _ _ => ⟨rfl, rfl, (by decide : 1 + 1 ≤ _), (by decide : 3 + 6 ≤ _)⟩)
  dsimp only [Pt.U, Pt.locs, Pt.cells, Pt.slots] at X42 l45 y46 z47 st48 hQ44
  subst l45 y46 z47
  obtain ⟨N49, O2_, K2_, r_, kr_, rfl, rg_, Vr_⟩ := hQ44
  have N51 := Fr.app N33 N49
  have V52 := (V34.keep K2_ nin0)
  have Z53 := Nat.le_trans Z35 K2_.1
  have O54 := O_.keep K2_ all0
  have K55 := K37.trans K2_ all0
  refine own_bk (S' := (T38.setTop (mkF m 26 #[rv b, iv (0 : Int32), iv (3 : Int32), rv a9, iv (0 : Int32), .unset] [(.ref r_)]))) st48 ?_
  refine own_bk (S' := (T38.setTop (mkF m 28 #[rv b, iv (0 : Int32), iv (3 : Int32), rv a9, iv (0 : Int32), rv r_] []))) (fun t_ kont => XS.astore X42.here hx rfl (hb hby d14_26) rfl rfl (l' := #[rv b, iv (0 : Int32), iv (3 : Int32), rv a9, iv (0 : Int32), rv r_]) rfl kont) ?_
  refine own_bk (S' := (T38.setTop (mkF m 30 #[rv b, iv (0 : Int32), iv (3 : Int32), rv a9, iv (0 : Int32), rv r_] [(.ref r_)]))) (fun t_ kont => XS.aload X42.here hx rfl (hb hby d14_28) rfl rfl kont) ?_
  refine own_bk (S' := (T38.setTop (mkF m 32 #[rv b, iv (0 : Int32), iv (3 : Int32), rv a9, iv (0 : Int32), rv r_] [(.int (0 : Int32)), (.ref r_)]))) (fun t_ kont => XS.iload X42.here hx rfl (hb hby d14_30) rfl kont) ?_
  obtain ⟨_, _, ⟨T56, L57, k58, n59⟩, -, X60, ⟨Lc61, hQ62, l63, y64, z65⟩, st66⟩ := Jvm.LawKit.callS X42 hx (y := (⟨"java/lang/StringUTF16", "getChar", "([BI)C"⟩ : MethodName)) hown (mvT hZ (hw _ (List.mem_of_getElem? (i := 146) rfl))) (mvT hZ (hw _ (List.mem_of_getElem? (i := 147) rfl))) (mvT hZ (hw _ (List.mem_of_getElem? (i := 122) rfl))) (mvT hZ (hw _ (List.mem_of_getElem? (i := 148) rfl))) (by decide) (backOf (W := 0) (rmGC30 l Z a0 hw [] r_ kr_ q0 cz (.int (own_lo q1)) (.int (own_hi q1)) (.int (own_lo q2)) (.int (own_hi q2)) T38.heap n0 Z53 O2_ SU Vr_ lq0 uq0) hZ (hw _ (List.mem_of_getElem? (i := 148) rfl)) (hw _ (List.mem_of_getElem? (i := 122) rfl)) (by decide) (by decide)) (g := (mkF m 32 #[rv b, iv (0 : Int32), iv (3 : Int32), rv a9, iv (0 : Int32), rv r_] [(.int (0 : Int32)), (.ref r_)])) rfl (by rw [hml]; rfl) (argsL := [(.ref r_), (.int (0 : Int32))]) (rest := []) (lenOf (by decide +kernel : parseMethodDescriptor "([BI)C" = some ⟨[(.array .byte), .int], some .char⟩) rfl) rfl (by show 2 * 0 + _ ≤ _; exact Nat.le_of_eq rfl) (hb hby d14_32) (fun _ _ => ⟨rfl, rfl, (by decide : 2 + 0 ≤ _), (by decide : 9 + 0 ≤ _)⟩)
  dsimp only [Pt.U, Pt.locs, Pt.cells, Pt.slots] at X60 l63 y64 z65 st66 hQ62
  subst l63 y64 z65
  obtain ⟨rfl, N67, e68⟩ := hQ62
  have N69 := Fr.app N51 N67
  refine own_bk (S' := (T56.setTop (mkF m 35 #[rv b, iv (0 : Int32), iv (3 : Int32), rv a9, iv (0 : Int32), rv r_] [(.int q0)]))) st66 ?_
  refine own_bk (S' := (T56.setTop (mkF m 38 #[rv b, iv (0 : Int32), iv (3 : Int32), rv a9, iv (0 : Int32), rv r_] [(.int (255 : Int32)), (.int q0)]))) (fun t_ kont => XS.sipush X60.here hx rfl (hb hby d14_35) kont) ?_
  refine own_bk (S' := (T56.setTop (mkF m 54 #[rv b, iv (0 : Int32), iv (3 : Int32), rv a9, iv (0 : Int32), rv r_] []))) (fun t_ kont => XS.icmpYes X60.here hx rfl (pc0 := 38) (pc' := 54) rfl (hb hby d14_38) rfl (tlt (gq0)).2.2.1 (by decide) (by decide) kont) ?_
  refine own_bk (S' := (T56.setTop (mkF m 56 #[rv b, iv (0 : Int32), iv (3 : Int32), rv a9, iv (0 : Int32), rv r_] [(.ref r_)]))) (fun t_ kont => XS.aload X60.here hx rfl (hb hby d14_54) rfl rfl kont) ?_
  exact own_retA X60 hx hlk Bd.returns rfl rfl rfl (hb hby d14_56) (by rw [e68]; exact ⟨N69, O2_, K55, _, _, _, rfl, Vr_⟩) (by decide) (by decide)
theorem ef_rmC331 (m : MethodId) (x0 : Addr) (x1 : Int32) (x2 : Int32) : entryFrame m #[(.ref x0), (.int x1), (.int x2)] 6 = mkF m 0 #[.val (.ref x0), .val (.int x1), .val (.int x2), .unset, .unset, .unset] [] := by first | (simp [entryFrame, mkF, argsToLocals, Value.category, maxLocals]; done) | rfl
def Q_rmC331 (Z : State) (b : Addr) (kb : ClassId) (q0 q1 q2 cz : Int32) (h0 : Heap) (n0 : Nat) (v : Option Value) (h : Heap) (L : List Loc) : Prop := Fr n0 L ∧ Old Z n0 h ∧ Keep h0 h [] ∧ ∃ r kr vs, v = some (.ref r) ∧ Arv Z h r kr .byte (6 : Int32) vs (.int (0 : Int32))
set_option maxRecDepth 65536 in
set_option maxHeartbeats 40000000 in
theorem rmC331 (l : Launch) (Z : State) (a0 : Array Value) (hw : ∀ d ∈ tables_1, d.before a0 Z = true) (ws : List Jvm.Cond) (b : Addr) (kb : ClassId) (q0 q1 q2 cz : Int32) (h0 : Heap) (n0 : Nat) (Z0 : n0 ≤ h0.size) (O : Old Z n0 h0) (SU : own_St Z cz) (VB : Arv Z h0 b kb .char (3 : Int32) [(.int q0), (.int q1), (.int q2)] (.int (0 : Int32))) (lq0 : ¬ q0 < 0) (uq0 : ¬ (65535 : Int32) < q0) (lq1 : ¬ q1 < 0) (uq1 : ¬ (65535 : Int32) < q1) (lq2 : ¬ q2 < 0) (uq2 : ¬ (65535 : Int32) < q2) (gq0 : ¬ (255 : Int32) < q0) (gq1 : (255 : Int32) < q1) :
    MetFree l (⟨"java/lang/StringUTF16", "compress", "([CII)[B"⟩ : MethodName) (head1 (Jvm.Cond.code (⟨"java/lang/StringUTF16", "compress", "([CII)[B"⟩ : MethodName) jdk_52_method_16_code 6 (some (.array .byte)) :: ws) ({ frames := 3, cells := 2, slots := 9, locals := 64 } : Room)) (fun as_ U_ => as_ = #[(.ref b), (.int (0 : Int32)), (.int (3 : Int32))] ∧ Z.Warmed39 U_.vm ∧ U_.heap = h0) (fun _ _ _ _ _ => True) (fun _ U_ o_ U2_ => ∃ v_ L_, o_ = .returned v_ ∧ (Q_rmC331 Z b kb q0 q1 q2 cz h0 n0) v_ U2_.heap L_ ∧ FrameEnd U_ o_ U2_ L_ ({ frames := 3, cells := 2, slots := 9, locals := 64 } : Room).cells ({ frames := 3, cells := 2, slots := 9, locals := 64 } : Room).slots) := by
  refine MetFree.of_bodySF (plainFor_of_name (by first | (simp [plainName, overriddenIn]; done) | decide +kernel : plainName "java/lang/StringUTF16" = true)) hisR ?_
  intro p e s m args below meth c s₁ Bd hml0 hP hK
  obtain ⟨rfl, hZ, hh⟩ := hP
  have hx := Bd.exec
  have hby := Bd.bytes
  have hlk := Bd.notSynchronized
  have hml : c.maxLocals = 6 := hml0
  have hown : s.vm.findClass "java/lang/StringUTF16" = some m.cls := findClass_of_methodNamed Bd.named
  have hnm := (name_of_methodNamed Bd.named Bd.method).1
  have X0 : Stand p l e ({ frames := 3, cells := 2, slots := 9, locals := 64 } : Room) s m #[(.ref b), (.int (0 : Int32)), (.int (3 : Int32))] below meth c s₁ [] 0 0 := Stand.of_body Bd
  have e0 : s₁.heap = h0 := by rw [← hh, Bd.state]; rfl
  have N0 := Fr.nil n0
  show own_Go p e below (own_R s below (Q_rmC331 Z b kb q0 q1 q2 cz h0 n0) ({ frames := 3, cells := 2, slots := 9, locals := 64 } : Room).cells ({ frames := 3, cells := 2, slots := 9, locals := 64 } : Room).slots) (s₁.setTop (entryFrame m #[(.ref b), (.int (0 : Int32)), (.int (3 : Int32))] 6))
  refine own_bk (S' := (s₁.setTop (mkF m 0 #[rv b, iv (0 : Int32), iv (3 : Int32), .unset, .unset, .unset] []))) (fun t_ kont => castTop (ef_rmC331 m (b) ((0 : Int32)) ((3 : Int32))) kont) ?_
  refine own_bk (S' := (s₁.setTop (mkF m 1 #[rv b, iv (0 : Int32), iv (3 : Int32), .unset, .unset, .unset] [(.int (3 : Int32))]))) (fun t_ kont => XS.iloadN X0.here hx rfl (hb hby d14_0) rfl kont) ?_
  obtain ⟨T1, h2, k3, X4, e5, E6, A7, st8⟩ := newP X0 hx hZ (hw _ (List.mem_of_getElem? (i := 107) rfl)) e0 (g := (mkF m 1 #[rv b, iv (0 : Int32), iv (3 : Int32), .unset, .unset, .unset] [(.int (3 : Int32))])) rfl (hb hby d14_1) rfl (by decide : ¬ ((3 : Int32) < (0 : Int32))) (cap := 3) (by decide : (3 : Int32).toNatClampNeg ≤ 3) (by decide) (by decide) (by decide)
  obtain ⟨a9, g10⟩ : ∃ z, z = h0.size := ⟨_, rfl⟩
  rw [← g10] at A7 st8
  have ne12 : b ≠ a9 := Nat.ne_of_lt (Nat.lt_of_lt_of_le VB.lt (Nat.le_of_eq g10.symm))
  have ag13 : n0 ≤ a9 := Nat.le_trans Z0 (Nat.le_of_eq g10.symm)
  have kg14 : h0.size ≤ a9 := Nat.le_trans (Keep.refl h0 []).1 (Nat.le_of_eq g10.symm)
  have V15 := (VB.ext E6)
  have Z16 := Nat.le_trans Z0 E6.1
  have O17 := O.ext E6
  have K18 := (Keep.refl h0 []).ext E6
  have V11 : Arv Z h2 a9 k3 .byte (3 : Int32) [] (.int (0 : Int32)) := (Arv.new A7 (by decide : ¬ ((3 : Int32) < (0 : Int32))))
  have V19 : Arv Z h2 a9 k3 .byte (3 : Int32) [(.int (0 : Int32)), (.int (0 : Int32)), (.int (0 : Int32))] (.int (0 : Int32)) := (V11.pad (pad_rep [] (.int (0 : Int32)) 3))
  refine own_bk (S' := (T1.setTop (mkF m 3 #[rv b, iv (0 : Int32), iv (3 : Int32), .unset, .unset, .unset] [(.ref a9)]))) st8 ?_
  refine own_bk (S' := (T1.setTop (mkF m 4 #[rv b, iv (0 : Int32), iv (3 : Int32), rv a9, .unset, .unset] []))) (fun t_ kont => XS.astoreN X4.here hx rfl (hb hby d14_3) rfl rfl (l' := #[rv b, iv (0 : Int32), iv (3 : Int32), rv a9, .unset, .unset]) rfl kont) ?_
  refine own_bk (S' := (T1.setTop (mkF m 5 #[rv b, iv (0 : Int32), iv (3 : Int32), rv a9, .unset, .unset] [(.ref b)]))) (fun t_ kont => XS.aloadN X4.here hx rfl (hb hby d14_4) rfl rfl kont) ?_
  refine own_bk (S' := (T1.setTop (mkF m 6 #[rv b, iv (0 : Int32), iv (3 : Int32), rv a9, .unset, .unset] [(.int (0 : Int32)), (.ref b)]))) (fun t_ kont => XS.iloadN X4.here hx rfl (hb hby d14_5) rfl kont) ?_
  refine own_bk (S' := (T1.setTop (mkF m 7 #[rv b, iv (0 : Int32), iv (3 : Int32), rv a9, .unset, .unset] [(.ref a9), (.int (0 : Int32)), (.ref b)]))) (fun t_ kont => XS.aloadN X4.here hx rfl (hb hby d14_6) rfl rfl kont) ?_
  refine own_bk (S' := (T1.setTop (mkF m 8 #[rv b, iv (0 : Int32), iv (3 : Int32), rv a9, .unset, .unset] [(.int (0 : Int32)), (.ref a9), (.int (0 : Int32)), (.ref b)]))) (fun t_ kont => XS.iconst X4.here hx rfl (hb hby d14_7) kont) ?_
  refine own_bk (S' := (T1.setTop (mkF m 9 #[rv b, iv (0 : Int32), iv (3 : Int32), rv a9, .unset, .unset] [(.int (3 : Int32)), (.int (0 : Int32)), (.ref a9), (.int (0 : Int32)), (.ref b)]))) (fun t_ kont => XS.iloadN X4.here hx rfl (hb hby d14_8) rfl kont) ?_
  obtain ⟨_, _, ⟨T20, L21, k22, n23⟩, -, X24, ⟨Lc25, hQ26, l27, y28, z29⟩, st30⟩ := Jvm.LawKit.callS X4 hx (y := (⟨"java/lang/StringUTF16", "compress", "([CI[BII)I"⟩ : MethodName)) hown (mvT hZ (hw _ (List.mem_of_getElem? (i := 124) rfl))) (mvT hZ (hw _ (List.mem_of_getElem? (i := 125) rfl))) (mvT hZ (hw _ (List.mem_of_getElem? (i := 122) rfl))) (mvT hZ (hw _ (List.mem_of_getElem? (i := 126) rfl))) (by decide) (backOf (W := 0) (rmC531 l Z a0 hw [] b a9 kb k3 q0 q1 q2 h2 n0 Z16 O17 V15 V19 ne12 ag13 gq0 gq1) hZ (hw _ (List.mem_of_getElem? (i := 126) rfl)) (hw _ (List.mem_of_getElem? (i := 122) rfl)) (by decide) (by decide)) (g := (mkF m 9 #[rv b, iv (0 : Int32), iv (3 : Int32), rv a9, .unset, .unset] [(.int (3 : Int32)), (.int (0 : Int32)), (.ref a9), (.int (0 : Int32)), (.ref b)])) rfl (by rw [hml]; rfl) (argsL := [(.ref b), (.int (0 : Int32)), (.ref a9), (.int (0 : Int32)), (.int (3 : Int32))]) (rest := []) (lenOf (by decide +kernel : parseMethodDescriptor "([CI[BII)I" = some ⟨[(.array .char), .int, (.array .byte), .int, .int], some .int⟩) rfl) rfl (by show 2 * 0 + _ ≤ _; exact Nat.le_of_eq rfl) (hb hby d14_9) (fun _ _ => ⟨rfl, e5, (by decide : 1 + 0 ≤ _), (by decide : 3 + 0 ≤ _)⟩)
  dsimp only [Pt.U, Pt.locs, Pt.cells, Pt.slots] at X24 l27 y28 z29 st30 hQ26
  subst l27 y28 z29
  obtain ⟨rfl, N31, O_, K_, vs_, Vd_⟩ := hQ26
  have N33 := Fr.app N0 N31
  have V34 := (V15.keep K_ (ninS ne12 nin0))
  have Z35 := Nat.le_trans Z16 K_.1
  have O36 := O17.keep K_ (allS ag13 all0)
  have K37 := K18.trans K_ (allS (Or.inr kg14) all0)
  refine own_bk (S' := (T20.setTop (mkF m 12 #[rv b, iv (0 : Int32), iv (3 : Int32), rv a9, .unset, .unset] [(.int (1 : Int32))]))) st30 ?_
  refine own_bk (S' := (T20.setTop (mkF m 14 #[rv b, iv (0 : Int32), iv (3 : Int32), rv a9, iv (1 : Int32), .unset] []))) (fun t_ kont => XS.istore X24.here hx rfl (hb hby d14_12) rfl (l' := #[rv b, iv (0 : Int32), iv (3 : Int32), rv a9, iv (1 : Int32), .unset]) rfl kont) ?_
  refine own_bk (S' := (T20.setTop (mkF m 16 #[rv b, iv (0 : Int32), iv (3 : Int32), rv a9, iv (1 : Int32), .unset] [(.int (1 : Int32))]))) (fun t_ kont => XS.iload X24.here hx rfl (hb hby d14_14) rfl kont) ?_
  refine own_bk (S' := (T20.setTop (mkF m 17 #[rv b, iv (0 : Int32), iv (3 : Int32), rv a9, iv (1 : Int32), .unset] [(.int (3 : Int32)), (.int (1 : Int32))]))) (fun t_ kont => XS.iloadN X24.here hx rfl (hb hby d14_16) rfl kont) ?_
  refine own_bk (S' := (T20.setTop (mkF m 20 #[rv b, iv (0 : Int32), iv (3 : Int32), rv a9, iv (1 : Int32), .unset] []))) (fun t_ kont => XS.icmpNo X24.here hx rfl (hb hby d14_17) rfl (feq (by decide : ¬ ((1 : Int32)) = ((3 : Int32)))).1 kont) ?_
  refine own_bk (S' := (T20.setTop (mkF m 21 #[rv b, iv (0 : Int32), iv (3 : Int32), rv a9, iv (1 : Int32), .unset] [(.ref b)]))) (fun t_ kont => XS.aloadN X24.here hx rfl (hb hby d14_20) rfl rfl kont) ?_
  refine own_bk (S' := (T20.setTop (mkF m 22 #[rv b, iv (0 : Int32), iv (3 : Int32), rv a9, iv (1 : Int32), .unset] [(.int (0 : Int32)), (.ref b)]))) (fun t_ kont => XS.iloadN X24.here hx rfl (hb hby d14_21) rfl kont) ?_
  refine own_bk (S' := (T20.setTop (mkF m 23 #[rv b, iv (0 : Int32), iv (3 : Int32), rv a9, iv (1 : Int32), .unset] [(.int (3 : Int32)), (.int (0 : Int32)), (.ref b)]))) (fun t_ kont => XS.iloadN X24.here hx rfl (hb hby d14_22) rfl kont) ?_
  obtain ⟨_, _, ⟨T38, L39, k40, n41⟩, -, X42, ⟨Lc43, hQ44, l45, y46, z47⟩, st48⟩ := Jvm.LawKit.callS X24 hx (y := (⟨"java/lang/StringUTF16", "toBytes", "([CII)[B"⟩ : MethodName)) hown (mvT hZ (hw _ (List.mem_of_getElem? (i := 130) rfl))) (mvT hZ (hw _ (List.mem_of_getElem? (i := 131) rfl))) (mvT hZ (hw _ (List.mem_of_getElem? (i := 122) rfl))) (mvT hZ (hw _ (List.mem_of_getElem? (i := 132) rfl))) (by decide) (backOf (W := 0) (rmTB3 l Z a0 hw [] b kb q0 q1 q2 cz T20.heap n0 Z35 O_ SU V34) hZ (hw _ (List.mem_of_getElem? (i := 132) rfl)) (hw _ (List.mem_of_getElem? (i := 122) rfl)) (by decide) (by decide)) (g := (mkF m 23 #[rv b, iv (0 : Int32), iv (3 : Int32), rv a9, iv (1 : Int32), .unset] [(.int (3 : Int32)), (.int (0 : Int32)), (.ref b)])) rfl (by rw [hml]; rfl) (argsL := [(.ref b), (.int (0 : Int32)), (.int (3 : Int32))]) (rest := []) (lenOf (by decide +kernel : parseMethodDescriptor "([CII)[B" = some ⟨[(.array .char), .int, .int], some (.array .byte)⟩) rfl) rfl (by show 2 * 0 + _ ≤ _; exact Nat.le_of_eq rfl) (hb hby d14_23) (fun _ _ => ⟨rfl, rfl, (by decide : 1 + 1 ≤ _), (by decide : 3 + 6 ≤ _)⟩)
  dsimp only [Pt.U, Pt.locs, Pt.cells, Pt.slots] at X42 l45 y46 z47 st48 hQ44
  subst l45 y46 z47
  obtain ⟨N49, O2_, K2_, r_, kr_, rfl, rg_, Vr_⟩ := hQ44
  have N51 := Fr.app N33 N49
  have V52 := (V34.keep K2_ nin0)
  have Z53 := Nat.le_trans Z35 K2_.1
  have O54 := O_.keep K2_ all0
  have K55 := K37.trans K2_ all0
  refine own_bk (S' := (T38.setTop (mkF m 26 #[rv b, iv (0 : Int32), iv (3 : Int32), rv a9, iv (1 : Int32), .unset] [(.ref r_)]))) st48 ?_
  refine own_bk (S' := (T38.setTop (mkF m 28 #[rv b, iv (0 : Int32), iv (3 : Int32), rv a9, iv (1 : Int32), rv r_] []))) (fun t_ kont => XS.astore X42.here hx rfl (hb hby d14_26) rfl rfl (l' := #[rv b, iv (0 : Int32), iv (3 : Int32), rv a9, iv (1 : Int32), rv r_]) rfl kont) ?_
  refine own_bk (S' := (T38.setTop (mkF m 30 #[rv b, iv (0 : Int32), iv (3 : Int32), rv a9, iv (1 : Int32), rv r_] [(.ref r_)]))) (fun t_ kont => XS.aload X42.here hx rfl (hb hby d14_28) rfl rfl kont) ?_
  refine own_bk (S' := (T38.setTop (mkF m 32 #[rv b, iv (0 : Int32), iv (3 : Int32), rv a9, iv (1 : Int32), rv r_] [(.int (1 : Int32)), (.ref r_)]))) (fun t_ kont => XS.iload X42.here hx rfl (hb hby d14_30) rfl kont) ?_
  obtain ⟨_, _, ⟨T56, L57, k58, n59⟩, -, X60, ⟨Lc61, hQ62, l63, y64, z65⟩, st66⟩ := Jvm.LawKit.callS X42 hx (y := (⟨"java/lang/StringUTF16", "getChar", "([BI)C"⟩ : MethodName)) hown (mvT hZ (hw _ (List.mem_of_getElem? (i := 146) rfl))) (mvT hZ (hw _ (List.mem_of_getElem? (i := 147) rfl))) (mvT hZ (hw _ (List.mem_of_getElem? (i := 122) rfl))) (mvT hZ (hw _ (List.mem_of_getElem? (i := 148) rfl))) (by decide) (backOf (W := 0) (rmGC31 l Z a0 hw [] r_ kr_ q1 cz (.int (own_lo q0)) (.int (own_hi q0)) (.int (own_lo q2)) (.int (own_hi q2)) T38.heap n0 Z53 O2_ SU Vr_ lq1 uq1) hZ (hw _ (List.mem_of_getElem? (i := 148) rfl)) (hw _ (List.mem_of_getElem? (i := 122) rfl)) (by decide) (by decide)) (g := (mkF m 32 #[rv b, iv (0 : Int32), iv (3 : Int32), rv a9, iv (1 : Int32), rv r_] [(.int (1 : Int32)), (.ref r_)])) rfl (by rw [hml]; rfl) (argsL := [(.ref r_), (.int (1 : Int32))]) (rest := []) (lenOf (by decide +kernel : parseMethodDescriptor "([BI)C" = some ⟨[(.array .byte), .int], some .char⟩) rfl) rfl (by show 2 * 0 + _ ≤ _; exact Nat.le_of_eq rfl) (hb hby d14_32) (fun _ _ => ⟨rfl, rfl, (by decide : 2 + 0 ≤ _), (by decide : 9 + 0 ≤ _)⟩)
  dsimp only [Pt.U, Pt.locs, Pt.cells, Pt.slots] at X60 l63 y64 z65 st66 hQ62
  subst l63 y64 z65
  obtain ⟨rfl, N67, e68⟩ := hQ62
  have N69 := Fr.app N51 N67
  refine own_bk (S' := (T56.setTop (mkF m 35 #[rv b, iv (0 : Int32), iv (3 : Int32), rv a9, iv (1 : Int32), rv r_] [(.int q1)]))) st66 ?_
  refine own_bk (S' := (T56.setTop (mkF m 38 #[rv b, iv (0 : Int32), iv (3 : Int32), rv a9, iv (1 : Int32), rv r_] [(.int (255 : Int32)), (.int q1)]))) (fun t_ kont => XS.sipush X60.here hx rfl (hb hby d14_35) kont) ?_
  refine own_bk (S' := (T56.setTop (mkF m 54 #[rv b, iv (0 : Int32), iv (3 : Int32), rv a9, iv (1 : Int32), rv r_] []))) (fun t_ kont => XS.icmpYes X60.here hx rfl (pc0 := 38) (pc' := 54) rfl (hb hby d14_38) rfl (tlt (gq1)).2.2.1 (by decide) (by decide) kont) ?_
  refine own_bk (S' := (T56.setTop (mkF m 56 #[rv b, iv (0 : Int32), iv (3 : Int32), rv a9, iv (1 : Int32), rv r_] [(.ref r_)]))) (fun t_ kont => XS.aload X60.here hx rfl (hb hby d14_54) rfl rfl kont) ?_
  exact own_retA X60 hx hlk Bd.returns rfl rfl rfl (hb hby d14_56) (by rw [e68]; exact ⟨N69, O2_, K55, _, _, _, rfl, Vr_⟩) (by decide) (by decide)
theorem ef_rmC332 (m : MethodId) (x0 : Addr) (x1 : Int32) (x2 : Int32) : entryFrame m #[(.ref x0), (.int x1), (.int x2)] 6 = mkF m 0 #[.val (.ref x0), .val (.int x1), .val (.int x2), .unset, .unset, .unset] [] := by first | (simp [entryFrame, mkF, argsToLocals, Value.category, maxLocals]; done) | rfl
def Q_rmC332 (Z : State) (b : Addr) (kb : ClassId) (q0 q1 q2 cz : Int32) (h0 : Heap) (n0 : Nat) (v : Option Value) (h : Heap) (L : List Loc) : Prop := Fr n0 L ∧ Old Z n0 h ∧ Keep h0 h [] ∧ ∃ r kr vs, v = some (.ref r) ∧ Arv Z h r kr .byte (6 : Int32) vs (.int (0 : Int32))
set_option maxRecDepth 65536 in
set_option maxHeartbeats 40000000 in
theorem rmC332 (l : Launch) (Z : State) (a0 : Array Value) (hw : ∀ d ∈ tables_1, d.before a0 Z = true) (ws : List Jvm.Cond) (b : Addr) (kb : ClassId) (q0 q1 q2 cz : Int32) (h0 : Heap) (n0 : Nat) (Z0 : n0 ≤ h0.size) (O : Old Z n0 h0) (SU : own_St Z cz) (VB : Arv Z h0 b kb .char (3 : Int32) [(.int q0), (.int q1), (.int q2)] (.int (0 : Int32))) (lq0 : ¬ q0 < 0) (uq0 : ¬ (65535 : Int32) < q0) (lq1 : ¬ q1 < 0) (uq1 : ¬ (65535 : Int32) < q1) (lq2 : ¬ q2 < 0) (uq2 : ¬ (65535 : Int32) < q2) (gq0 : ¬ (255 : Int32) < q0) (gq1 : ¬ (255 : Int32) < q1) (gq2 : (255 : Int32) < q2) :
    MetFree l (⟨"java/lang/StringUTF16", "compress", "([CII)[B"⟩ : MethodName) (head1 (Jvm.Cond.code (⟨"java/lang/StringUTF16", "compress", "([CII)[B"⟩ : MethodName) jdk_52_method_16_code 6 (some (.array .byte)) :: ws) ({ frames := 3, cells := 2, slots := 9, locals := 64 } : Room)) (fun as_ U_ => as_ = #[(.ref b), (.int (0 : Int32)), (.int (3 : Int32))] ∧ Z.Warmed39 U_.vm ∧ U_.heap = h0) (fun _ _ _ _ _ => True) (fun _ U_ o_ U2_ => ∃ v_ L_, o_ = .returned v_ ∧ (Q_rmC332 Z b kb q0 q1 q2 cz h0 n0) v_ U2_.heap L_ ∧ FrameEnd U_ o_ U2_ L_ ({ frames := 3, cells := 2, slots := 9, locals := 64 } : Room).cells ({ frames := 3, cells := 2, slots := 9, locals := 64 } : Room).slots) := by
  refine MetFree.of_bodySF (plainFor_of_name (by first | (simp [plainName, overriddenIn]; done) | decide +kernel : plainName "java/lang/StringUTF16" = true)) hisR ?_
  intro p e s m args below meth c s₁ Bd hml0 hP hK
  obtain ⟨rfl, hZ, hh⟩ := hP
  have hx := Bd.exec
  have hby := Bd.bytes
  have hlk := Bd.notSynchronized
  have hml : c.maxLocals = 6 := hml0
  have hown : s.vm.findClass "java/lang/StringUTF16" = some m.cls := findClass_of_methodNamed Bd.named
  have hnm := (name_of_methodNamed Bd.named Bd.method).1
  have X0 : Stand p l e ({ frames := 3, cells := 2, slots := 9, locals := 64 } : Room) s m #[(.ref b), (.int (0 : Int32)), (.int (3 : Int32))] below meth c s₁ [] 0 0 := Stand.of_body Bd
  have e0 : s₁.heap = h0 := by rw [← hh, Bd.state]; rfl
  have N0 := Fr.nil n0
  show own_Go p e below (own_R s below (Q_rmC332 Z b kb q0 q1 q2 cz h0 n0) ({ frames := 3, cells := 2, slots := 9, locals := 64 } : Room).cells ({ frames := 3, cells := 2, slots := 9, locals := 64 } : Room).slots) (s₁.setTop (entryFrame m #[(.ref b), (.int (0 : Int32)), (.int (3 : Int32))] 6))
  refine own_bk (S' := (s₁.setTop (mkF m 0 #[rv b, iv (0 : Int32), iv (3 : Int32), .unset, .unset, .unset] []))) (fun t_ kont => castTop (ef_rmC332 m (b) ((0 : Int32)) ((3 : Int32))) kont) ?_
  refine own_bk (S' := (s₁.setTop (mkF m 1 #[rv b, iv (0 : Int32), iv (3 : Int32), .unset, .unset, .unset] [(.int (3 : Int32))]))) (fun t_ kont => XS.iloadN X0.here hx rfl (hb hby d14_0) rfl kont) ?_
  obtain ⟨T1, h2, k3, X4, e5, E6, A7, st8⟩ := newP X0 hx hZ (hw _ (List.mem_of_getElem? (i := 107) rfl)) e0 (g := (mkF m 1 #[rv b, iv (0 : Int32), iv (3 : Int32), .unset, .unset, .unset] [(.int (3 : Int32))])) rfl (hb hby d14_1) rfl (by decide : ¬ ((3 : Int32) < (0 : Int32))) (cap := 3) (by decide : (3 : Int32).toNatClampNeg ≤ 3) (by decide) (by decide) (by decide)
  obtain ⟨a9, g10⟩ : ∃ z, z = h0.size := ⟨_, rfl⟩
  rw [← g10] at A7 st8
  have ne12 : b ≠ a9 := Nat.ne_of_lt (Nat.lt_of_lt_of_le VB.lt (Nat.le_of_eq g10.symm))
  have ag13 : n0 ≤ a9 := Nat.le_trans Z0 (Nat.le_of_eq g10.symm)
  have kg14 : h0.size ≤ a9 := Nat.le_trans (Keep.refl h0 []).1 (Nat.le_of_eq g10.symm)
  have V15 := (VB.ext E6)
  have Z16 := Nat.le_trans Z0 E6.1
  have O17 := O.ext E6
  have K18 := (Keep.refl h0 []).ext E6
  have V11 : Arv Z h2 a9 k3 .byte (3 : Int32) [] (.int (0 : Int32)) := (Arv.new A7 (by decide : ¬ ((3 : Int32) < (0 : Int32))))
  have V19 : Arv Z h2 a9 k3 .byte (3 : Int32) [(.int (0 : Int32)), (.int (0 : Int32)), (.int (0 : Int32))] (.int (0 : Int32)) := (V11.pad (pad_rep [] (.int (0 : Int32)) 3))
  refine own_bk (S' := (T1.setTop (mkF m 3 #[rv b, iv (0 : Int32), iv (3 : Int32), .unset, .unset, .unset] [(.ref a9)]))) st8 ?_
  refine own_bk (S' := (T1.setTop (mkF m 4 #[rv b, iv (0 : Int32), iv (3 : Int32), rv a9, .unset, .unset] []))) (fun t_ kont => XS.astoreN X4.here hx rfl (hb hby d14_3) rfl rfl (l' := #[rv b, iv (0 : Int32), iv (3 : Int32), rv a9, .unset, .unset]) rfl kont) ?_
  refine own_bk (S' := (T1.setTop (mkF m 5 #[rv b, iv (0 : Int32), iv (3 : Int32), rv a9, .unset, .unset] [(.ref b)]))) (fun t_ kont => XS.aloadN X4.here hx rfl (hb hby d14_4) rfl rfl kont) ?_
  refine own_bk (S' := (T1.setTop (mkF m 6 #[rv b, iv (0 : Int32), iv (3 : Int32), rv a9, .unset, .unset] [(.int (0 : Int32)), (.ref b)]))) (fun t_ kont => XS.iloadN X4.here hx rfl (hb hby d14_5) rfl kont) ?_
  refine own_bk (S' := (T1.setTop (mkF m 7 #[rv b, iv (0 : Int32), iv (3 : Int32), rv a9, .unset, .unset] [(.ref a9), (.int (0 : Int32)), (.ref b)]))) (fun t_ kont => XS.aloadN X4.here hx rfl (hb hby d14_6) rfl rfl kont) ?_
  refine own_bk (S' := (T1.setTop (mkF m 8 #[rv b, iv (0 : Int32), iv (3 : Int32), rv a9, .unset, .unset] [(.int (0 : Int32)), (.ref a9), (.int (0 : Int32)), (.ref b)]))) (fun t_ kont => XS.iconst X4.here hx rfl (hb hby d14_7) kont) ?_
  refine own_bk (S' := (T1.setTop (mkF m 9 #[rv b, iv (0 : Int32), iv (3 : Int32), rv a9, .unset, .unset] [(.int (3 : Int32)), (.int (0 : Int32)), (.ref a9), (.int (0 : Int32)), (.ref b)]))) (fun t_ kont => XS.iloadN X4.here hx rfl (hb hby d14_8) rfl kont) ?_
  obtain ⟨_, _, ⟨T20, L21, k22, n23⟩, -, X24, ⟨Lc25, hQ26, l27, y28, z29⟩, st30⟩ := Jvm.LawKit.callS X4 hx (y := (⟨"java/lang/StringUTF16", "compress", "([CI[BII)I"⟩ : MethodName)) hown (mvT hZ (hw _ (List.mem_of_getElem? (i := 124) rfl))) (mvT hZ (hw _ (List.mem_of_getElem? (i := 125) rfl))) (mvT hZ (hw _ (List.mem_of_getElem? (i := 122) rfl))) (mvT hZ (hw _ (List.mem_of_getElem? (i := 126) rfl))) (by decide) (backOf (W := 0) (rmC532 l Z a0 hw [] b a9 kb k3 q0 q1 q2 h2 n0 Z16 O17 V15 V19 ne12 ag13 gq0 gq1 gq2) hZ (hw _ (List.mem_of_getElem? (i := 126) rfl)) (hw _ (List.mem_of_getElem? (i := 122) rfl)) (by decide) (by decide)) (g := (mkF m 9 #[rv b, iv (0 : Int32), iv (3 : Int32), rv a9, .unset, .unset] [(.int (3 : Int32)), (.int (0 : Int32)), (.ref a9), (.int (0 : Int32)), (.ref b)])) rfl (by rw [hml]; rfl) (argsL := [(.ref b), (.int (0 : Int32)), (.ref a9), (.int (0 : Int32)), (.int (3 : Int32))]) (rest := []) (lenOf (by decide +kernel : parseMethodDescriptor "([CI[BII)I" = some ⟨[(.array .char), .int, (.array .byte), .int, .int], some .int⟩) rfl) rfl (by show 2 * 0 + _ ≤ _; exact Nat.le_of_eq rfl) (hb hby d14_9) (fun _ _ => ⟨rfl, e5, (by decide : 1 + 0 ≤ _), (by decide : 3 + 0 ≤ _)⟩)
  dsimp only [Pt.U, Pt.locs, Pt.cells, Pt.slots] at X24 l27 y28 z29 st30 hQ26
  subst l27 y28 z29
  obtain ⟨rfl, N31, O_, K_, vs_, Vd_⟩ := hQ26
  have N33 := Fr.app N0 N31
  have V34 := (V15.keep K_ (ninS ne12 nin0))
  have Z35 := Nat.le_trans Z16 K_.1
  have O36 := O17.keep K_ (allS ag13 all0)
  have K37 := K18.trans K_ (allS (Or.inr kg14) all0)
  refine own_bk (S' := (T20.setTop (mkF m 12 #[rv b, iv (0 : Int32), iv (3 : Int32), rv a9, .unset, .unset] [(.int (2 : Int32))]))) st30 ?_
  refine own_bk (S' := (T20.setTop (mkF m 14 #[rv b, iv (0 : Int32), iv (3 : Int32), rv a9, iv (2 : Int32), .unset] []))) (fun t_ kont => XS.istore X24.here hx rfl (hb hby d14_12) rfl (l' := #[rv b, iv (0 : Int32), iv (3 : Int32), rv a9, iv (2 : Int32), .unset]) rfl kont) ?_
  refine own_bk (S' := (T20.setTop (mkF m 16 #[rv b, iv (0 : Int32), iv (3 : Int32), rv a9, iv (2 : Int32), .unset] [(.int (2 : Int32))]))) (fun t_ kont => XS.iload X24.here hx rfl (hb hby d14_14) rfl kont) ?_
  refine own_bk (S' := (T20.setTop (mkF m 17 #[rv b, iv (0 : Int32), iv (3 : Int32), rv a9, iv (2 : Int32), .unset] [(.int (3 : Int32)), (.int (2 : Int32))]))) (fun t_ kont => XS.iloadN X24.here hx rfl (hb hby d14_16) rfl kont) ?_
  refine own_bk (S' := (T20.setTop (mkF m 20 #[rv b, iv (0 : Int32), iv (3 : Int32), rv a9, iv (2 : Int32), .unset] []))) (fun t_ kont => XS.icmpNo X24.here hx rfl (hb hby d14_17) rfl (feq (by decide : ¬ ((2 : Int32)) = ((3 : Int32)))).1 kont) ?_
  refine own_bk (S' := (T20.setTop (mkF m 21 #[rv b, iv (0 : Int32), iv (3 : Int32), rv a9, iv (2 : Int32), .unset] [(.ref b)]))) (fun t_ kont => XS.aloadN X24.here hx rfl (hb hby d14_20) rfl rfl kont) ?_
  refine own_bk (S' := (T20.setTop (mkF m 22 #[rv b, iv (0 : Int32), iv (3 : Int32), rv a9, iv (2 : Int32), .unset] [(.int (0 : Int32)), (.ref b)]))) (fun t_ kont => XS.iloadN X24.here hx rfl (hb hby d14_21) rfl kont) ?_
  refine own_bk (S' := (T20.setTop (mkF m 23 #[rv b, iv (0 : Int32), iv (3 : Int32), rv a9, iv (2 : Int32), .unset] [(.int (3 : Int32)), (.int (0 : Int32)), (.ref b)]))) (fun t_ kont => XS.iloadN X24.here hx rfl (hb hby d14_22) rfl kont) ?_
  obtain ⟨_, _, ⟨T38, L39, k40, n41⟩, -, X42, ⟨Lc43, hQ44, l45, y46, z47⟩, st48⟩ := Jvm.LawKit.callS X24 hx (y := (⟨"java/lang/StringUTF16", "toBytes", "([CII)[B"⟩ : MethodName)) hown (mvT hZ (hw _ (List.mem_of_getElem? (i := 130) rfl))) (mvT hZ (hw _ (List.mem_of_getElem? (i := 131) rfl))) (mvT hZ (hw _ (List.mem_of_getElem? (i := 122) rfl))) (mvT hZ (hw _ (List.mem_of_getElem? (i := 132) rfl))) (by decide) (backOf (W := 0) (rmTB3 l Z a0 hw [] b kb q0 q1 q2 cz T20.heap n0 Z35 O_ SU V34) hZ (hw _ (List.mem_of_getElem? (i := 132) rfl)) (hw _ (List.mem_of_getElem? (i := 122) rfl)) (by decide) (by decide)) (g := (mkF m 23 #[rv b, iv (0 : Int32), iv (3 : Int32), rv a9, iv (2 : Int32), .unset] [(.int (3 : Int32)), (.int (0 : Int32)), (.ref b)])) rfl (by rw [hml]; rfl) (argsL := [(.ref b), (.int (0 : Int32)), (.int (3 : Int32))]) (rest := []) (lenOf (by decide +kernel : parseMethodDescriptor "([CII)[B" = some ⟨[(.array .char), .int, .int], some (.array .byte)⟩) rfl) rfl (by show 2 * 0 + _ ≤ _; exact Nat.le_of_eq rfl) (hb hby d14_23) (fun _ _ => ⟨rfl, rfl, (by decide : 1 + 1 ≤ _), (by decide : 3 + 6 ≤ _)⟩)
  dsimp only [Pt.U, Pt.locs, Pt.cells, Pt.slots] at X42 l45 y46 z47 st48 hQ44
  subst l45 y46 z47
  obtain ⟨N49, O2_, K2_, r_, kr_, rfl, rg_, Vr_⟩ := hQ44
  have N51 := Fr.app N33 N49
  have V52 := (V34.keep K2_ nin0)
  have Z53 := Nat.le_trans Z35 K2_.1
  have O54 := O_.keep K2_ all0
  have K55 := K37.trans K2_ all0
  refine own_bk (S' := (T38.setTop (mkF m 26 #[rv b, iv (0 : Int32), iv (3 : Int32), rv a9, iv (2 : Int32), .unset] [(.ref r_)]))) st48 ?_
  refine own_bk (S' := (T38.setTop (mkF m 28 #[rv b, iv (0 : Int32), iv (3 : Int32), rv a9, iv (2 : Int32), rv r_] []))) (fun t_ kont => XS.astore X42.here hx rfl (hb hby d14_26) rfl rfl (l' := #[rv b, iv (0 : Int32), iv (3 : Int32), rv a9, iv (2 : Int32), rv r_]) rfl kont) ?_
  refine own_bk (S' := (T38.setTop (mkF m 30 #[rv b, iv (0 : Int32), iv (3 : Int32), rv a9, iv (2 : Int32), rv r_] [(.ref r_)]))) (fun t_ kont => XS.aload X42.here hx rfl (hb hby d14_28) rfl rfl kont) ?_
  refine own_bk (S' := (T38.setTop (mkF m 32 #[rv b, iv (0 : Int32), iv (3 : Int32), rv a9, iv (2 : Int32), rv r_] [(.int (2 : Int32)), (.ref r_)]))) (fun t_ kont => XS.iload X42.here hx rfl (hb hby d14_30) rfl kont) ?_
  obtain ⟨_, _, ⟨T56, L57, k58, n59⟩, -, X60, ⟨Lc61, hQ62, l63, y64, z65⟩, st66⟩ := Jvm.LawKit.callS X42 hx (y := (⟨"java/lang/StringUTF16", "getChar", "([BI)C"⟩ : MethodName)) hown (mvT hZ (hw _ (List.mem_of_getElem? (i := 146) rfl))) (mvT hZ (hw _ (List.mem_of_getElem? (i := 147) rfl))) (mvT hZ (hw _ (List.mem_of_getElem? (i := 122) rfl))) (mvT hZ (hw _ (List.mem_of_getElem? (i := 148) rfl))) (by decide) (backOf (W := 0) (rmGC32 l Z a0 hw [] r_ kr_ q2 cz (.int (own_lo q0)) (.int (own_hi q0)) (.int (own_lo q1)) (.int (own_hi q1)) T38.heap n0 Z53 O2_ SU Vr_ lq2 uq2) hZ (hw _ (List.mem_of_getElem? (i := 148) rfl)) (hw _ (List.mem_of_getElem? (i := 122) rfl)) (by decide) (by decide)) (g := (mkF m 32 #[rv b, iv (0 : Int32), iv (3 : Int32), rv a9, iv (2 : Int32), rv r_] [(.int (2 : Int32)), (.ref r_)])) rfl (by rw [hml]; rfl) (argsL := [(.ref r_), (.int (2 : Int32))]) (rest := []) (lenOf (by decide +kernel : parseMethodDescriptor "([BI)C" = some ⟨[(.array .byte), .int], some .char⟩) rfl) rfl (by show 2 * 0 + _ ≤ _; exact Nat.le_of_eq rfl) (hb hby d14_32) (fun _ _ => ⟨rfl, rfl, (by decide : 2 + 0 ≤ _), (by decide : 9 + 0 ≤ _)⟩)
  dsimp only [Pt.U, Pt.locs, Pt.cells, Pt.slots] at X60 l63 y64 z65 st66 hQ62
  subst l63 y64 z65
  obtain ⟨rfl, N67, e68⟩ := hQ62
  have N69 := Fr.app N51 N67
  refine own_bk (S' := (T56.setTop (mkF m 35 #[rv b, iv (0 : Int32), iv (3 : Int32), rv a9, iv (2 : Int32), rv r_] [(.int q2)]))) st66 ?_
  refine own_bk (S' := (T56.setTop (mkF m 38 #[rv b, iv (0 : Int32), iv (3 : Int32), rv a9, iv (2 : Int32), rv r_] [(.int (255 : Int32)), (.int q2)]))) (fun t_ kont => XS.sipush X60.here hx rfl (hb hby d14_35) kont) ?_
  refine own_bk (S' := (T56.setTop (mkF m 54 #[rv b, iv (0 : Int32), iv (3 : Int32), rv a9, iv (2 : Int32), rv r_] []))) (fun t_ kont => XS.icmpYes X60.here hx rfl (pc0 := 38) (pc' := 54) rfl (hb hby d14_38) rfl (tlt (gq2)).2.2.1 (by decide) (by decide) kont) ?_
  refine own_bk (S' := (T56.setTop (mkF m 56 #[rv b, iv (0 : Int32), iv (3 : Int32), rv a9, iv (2 : Int32), rv r_] [(.ref r_)]))) (fun t_ kont => XS.aload X60.here hx rfl (hb hby d14_54) rfl rfl kont) ?_
  exact own_retA X60 hx hlk Bd.returns rfl rfl rfl (hb hby d14_56) (by rw [e68]; exact ⟨N69, O2_, K55, _, _, _, rfl, Vr_⟩) (by decide) (by decide)
theorem ef_rmC333 (m : MethodId) (x0 : Addr) (x1 : Int32) (x2 : Int32) : entryFrame m #[(.ref x0), (.int x1), (.int x2)] 6 = mkF m 0 #[.val (.ref x0), .val (.int x1), .val (.int x2), .unset, .unset, .unset] [] := by first | (simp [entryFrame, mkF, argsToLocals, Value.category, maxLocals]; done) | rfl
def Q_rmC333 (Z : State) (b : Addr) (kb : ClassId) (q0 q1 q2 cz : Int32) (h0 : Heap) (n0 : Nat) (v : Option Value) (h : Heap) (L : List Loc) : Prop := Fr n0 L ∧ Old Z n0 h ∧ Keep h0 h [] ∧ ∃ r kr vs, v = some (.ref r) ∧ Arv Z h r kr .byte (3 : Int32) vs (.int (0 : Int32))
set_option maxRecDepth 65536 in
set_option maxHeartbeats 40000000 in
theorem rmC333 (l : Launch) (Z : State) (a0 : Array Value) (hw : ∀ d ∈ tables_1, d.before a0 Z = true) (ws : List Jvm.Cond) (b : Addr) (kb : ClassId) (q0 q1 q2 cz : Int32) (h0 : Heap) (n0 : Nat) (Z0 : n0 ≤ h0.size) (O : Old Z n0 h0) (SU : own_St Z cz) (VB : Arv Z h0 b kb .char (3 : Int32) [(.int q0), (.int q1), (.int q2)] (.int (0 : Int32))) (lq0 : ¬ q0 < 0) (uq0 : ¬ (65535 : Int32) < q0) (lq1 : ¬ q1 < 0) (uq1 : ¬ (65535 : Int32) < q1) (lq2 : ¬ q2 < 0) (uq2 : ¬ (65535 : Int32) < q2) (gq0 : ¬ (255 : Int32) < q0) (gq1 : ¬ (255 : Int32) < q1) (gq2 : ¬ (255 : Int32) < q2) :
    MetFree l (⟨"java/lang/StringUTF16", "compress", "([CII)[B"⟩ : MethodName) (head1 (Jvm.Cond.code (⟨"java/lang/StringUTF16", "compress", "([CII)[B"⟩ : MethodName) jdk_52_method_16_code 6 (some (.array .byte)) :: ws) ({ frames := 3, cells := 2, slots := 9, locals := 64 } : Room)) (fun as_ U_ => as_ = #[(.ref b), (.int (0 : Int32)), (.int (3 : Int32))] ∧ Z.Warmed39 U_.vm ∧ U_.heap = h0) (fun _ _ _ _ _ => True) (fun _ U_ o_ U2_ => ∃ v_ L_, o_ = .returned v_ ∧ (Q_rmC333 Z b kb q0 q1 q2 cz h0 n0) v_ U2_.heap L_ ∧ FrameEnd U_ o_ U2_ L_ ({ frames := 3, cells := 2, slots := 9, locals := 64 } : Room).cells ({ frames := 3, cells := 2, slots := 9, locals := 64 } : Room).slots) := by
  refine MetFree.of_bodySF (plainFor_of_name (by first | (simp [plainName, overriddenIn]; done) | decide +kernel : plainName "java/lang/StringUTF16" = true)) hisR ?_
  intro p e s m args below meth c s₁ Bd hml0 hP hK
  obtain ⟨rfl, hZ, hh⟩ := hP
  have hx := Bd.exec
  have hby := Bd.bytes
  have hlk := Bd.notSynchronized
  have hml : c.maxLocals = 6 := hml0
  have hown : s.vm.findClass "java/lang/StringUTF16" = some m.cls := findClass_of_methodNamed Bd.named
  have hnm := (name_of_methodNamed Bd.named Bd.method).1
  have X0 : Stand p l e ({ frames := 3, cells := 2, slots := 9, locals := 64 } : Room) s m #[(.ref b), (.int (0 : Int32)), (.int (3 : Int32))] below meth c s₁ [] 0 0 := Stand.of_body Bd
  have e0 : s₁.heap = h0 := by rw [← hh, Bd.state]; rfl
  have N0 := Fr.nil n0
  show own_Go p e below (own_R s below (Q_rmC333 Z b kb q0 q1 q2 cz h0 n0) ({ frames := 3, cells := 2, slots := 9, locals := 64 } : Room).cells ({ frames := 3, cells := 2, slots := 9, locals := 64 } : Room).slots) (s₁.setTop (entryFrame m #[(.ref b), (.int (0 : Int32)), (.int (3 : Int32))] 6))
  refine own_bk (S' := (s₁.setTop (mkF m 0 #[rv b, iv (0 : Int32), iv (3 : Int32), .unset, .unset, .unset] []))) (fun t_ kont => castTop (ef_rmC333 m (b) ((0 : Int32)) ((3 : Int32))) kont) ?_
  refine own_bk (S' := (s₁.setTop (mkF m 1 #[rv b, iv (0 : Int32), iv (3 : Int32), .unset, .unset, .unset] [(.int (3 : Int32))]))) (fun t_ kont => XS.iloadN X0.here hx rfl (hb hby d14_0) rfl kont) ?_
  obtain ⟨T1, h2, k3, X4, e5, E6, A7, st8⟩ := newP X0 hx hZ (hw _ (List.mem_of_getElem? (i := 107) rfl)) e0 (g := (mkF m 1 #[rv b, iv (0 : Int32), iv (3 : Int32), .unset, .unset, .unset] [(.int (3 : Int32))])) rfl (hb hby d14_1) rfl (by decide : ¬ ((3 : Int32) < (0 : Int32))) (cap := 3) (by decide : (3 : Int32).toNatClampNeg ≤ 3) (by decide) (by decide) (by decide)
  obtain ⟨a9, g10⟩ : ∃ z, z = h0.size := ⟨_, rfl⟩
  rw [← g10] at A7 st8
  have ne12 : b ≠ a9 := Nat.ne_of_lt (Nat.lt_of_lt_of_le VB.lt (Nat.le_of_eq g10.symm))
  have ag13 : n0 ≤ a9 := Nat.le_trans Z0 (Nat.le_of_eq g10.symm)
  have kg14 : h0.size ≤ a9 := Nat.le_trans (Keep.refl h0 []).1 (Nat.le_of_eq g10.symm)
  have V15 := (VB.ext E6)
  have Z16 := Nat.le_trans Z0 E6.1
  have O17 := O.ext E6
  have K18 := (Keep.refl h0 []).ext E6
  have V11 : Arv Z h2 a9 k3 .byte (3 : Int32) [] (.int (0 : Int32)) := (Arv.new A7 (by decide : ¬ ((3 : Int32) < (0 : Int32))))
  have V19 : Arv Z h2 a9 k3 .byte (3 : Int32) [(.int (0 : Int32)), (.int (0 : Int32)), (.int (0 : Int32))] (.int (0 : Int32)) := (V11.pad (pad_rep [] (.int (0 : Int32)) 3))
  refine own_bk (S' := (T1.setTop (mkF m 3 #[rv b, iv (0 : Int32), iv (3 : Int32), .unset, .unset, .unset] [(.ref a9)]))) st8 ?_
  refine own_bk (S' := (T1.setTop (mkF m 4 #[rv b, iv (0 : Int32), iv (3 : Int32), rv a9, .unset, .unset] []))) (fun t_ kont => XS.astoreN X4.here hx rfl (hb hby d14_3) rfl rfl (l' := #[rv b, iv (0 : Int32), iv (3 : Int32), rv a9, .unset, .unset]) rfl kont) ?_
  refine own_bk (S' := (T1.setTop (mkF m 5 #[rv b, iv (0 : Int32), iv (3 : Int32), rv a9, .unset, .unset] [(.ref b)]))) (fun t_ kont => XS.aloadN X4.here hx rfl (hb hby d14_4) rfl rfl kont) ?_
  refine own_bk (S' := (T1.setTop (mkF m 6 #[rv b, iv (0 : Int32), iv (3 : Int32), rv a9, .unset, .unset] [(.int (0 : Int32)), (.ref b)]))) (fun t_ kont => XS.iloadN X4.here hx rfl (hb hby d14_5) rfl kont) ?_
  refine own_bk (S' := (T1.setTop (mkF m 7 #[rv b, iv (0 : Int32), iv (3 : Int32), rv a9, .unset, .unset] [(.ref a9), (.int (0 : Int32)), (.ref b)]))) (fun t_ kont => XS.aloadN X4.here hx rfl (hb hby d14_6) rfl rfl kont) ?_
  refine own_bk (S' := (T1.setTop (mkF m 8 #[rv b, iv (0 : Int32), iv (3 : Int32), rv a9, .unset, .unset] [(.int (0 : Int32)), (.ref a9), (.int (0 : Int32)), (.ref b)]))) (fun t_ kont => XS.iconst X4.here hx rfl (hb hby d14_7) kont) ?_
  refine own_bk (S' := (T1.setTop (mkF m 9 #[rv b, iv (0 : Int32), iv (3 : Int32), rv a9, .unset, .unset] [(.int (3 : Int32)), (.int (0 : Int32)), (.ref a9), (.int (0 : Int32)), (.ref b)]))) (fun t_ kont => XS.iloadN X4.here hx rfl (hb hby d14_8) rfl kont) ?_
  obtain ⟨_, _, ⟨T20, L21, k22, n23⟩, -, X24, ⟨Lc25, hQ26, l27, y28, z29⟩, st30⟩ := Jvm.LawKit.callS X4 hx (y := (⟨"java/lang/StringUTF16", "compress", "([CI[BII)I"⟩ : MethodName)) hown (mvT hZ (hw _ (List.mem_of_getElem? (i := 124) rfl))) (mvT hZ (hw _ (List.mem_of_getElem? (i := 125) rfl))) (mvT hZ (hw _ (List.mem_of_getElem? (i := 122) rfl))) (mvT hZ (hw _ (List.mem_of_getElem? (i := 126) rfl))) (by decide) (backOf (W := 0) (rmC533 l Z a0 hw [] b a9 kb k3 q0 q1 q2 h2 n0 Z16 O17 V15 V19 ne12 ag13 gq0 gq1 gq2) hZ (hw _ (List.mem_of_getElem? (i := 126) rfl)) (hw _ (List.mem_of_getElem? (i := 122) rfl)) (by decide) (by decide)) (g := (mkF m 9 #[rv b, iv (0 : Int32), iv (3 : Int32), rv a9, .unset, .unset] [(.int (3 : Int32)), (.int (0 : Int32)), (.ref a9), (.int (0 : Int32)), (.ref b)])) rfl (by rw [hml]; rfl) (argsL := [(.ref b), (.int (0 : Int32)), (.ref a9), (.int (0 : Int32)), (.int (3 : Int32))]) (rest := []) (lenOf (by decide +kernel : parseMethodDescriptor "([CI[BII)I" = some ⟨[(.array .char), .int, (.array .byte), .int, .int], some .int⟩) rfl) rfl (by show 2 * 0 + _ ≤ _; exact Nat.le_of_eq rfl) (hb hby d14_9) (fun _ _ => ⟨rfl, e5, (by decide : 1 + 0 ≤ _), (by decide : 3 + 0 ≤ _)⟩)
  dsimp only [Pt.U, Pt.locs, Pt.cells, Pt.slots] at X24 l27 y28 z29 st30 hQ26
  subst l27 y28 z29
  obtain ⟨rfl, N31, O_, K_, vs_, Vd_⟩ := hQ26
  have N33 := Fr.app N0 N31
  have V34 := (V15.keep K_ (ninS ne12 nin0))
  have Z35 := Nat.le_trans Z16 K_.1
  have O36 := O17.keep K_ (allS ag13 all0)
  have K37 := K18.trans K_ (allS (Or.inr kg14) all0)
  refine own_bk (S' := (T20.setTop (mkF m 12 #[rv b, iv (0 : Int32), iv (3 : Int32), rv a9, .unset, .unset] [(.int (3 : Int32))]))) st30 ?_
  refine own_bk (S' := (T20.setTop (mkF m 14 #[rv b, iv (0 : Int32), iv (3 : Int32), rv a9, iv (3 : Int32), .unset] []))) (fun t_ kont => XS.istore X24.here hx rfl (hb hby d14_12) rfl (l' := #[rv b, iv (0 : Int32), iv (3 : Int32), rv a9, iv (3 : Int32), .unset]) rfl kont) ?_
  refine own_bk (S' := (T20.setTop (mkF m 16 #[rv b, iv (0 : Int32), iv (3 : Int32), rv a9, iv (3 : Int32), .unset] [(.int (3 : Int32))]))) (fun t_ kont => XS.iload X24.here hx rfl (hb hby d14_14) rfl kont) ?_
  refine own_bk (S' := (T20.setTop (mkF m 17 #[rv b, iv (0 : Int32), iv (3 : Int32), rv a9, iv (3 : Int32), .unset] [(.int (3 : Int32)), (.int (3 : Int32))]))) (fun t_ kont => XS.iloadN X24.here hx rfl (hb hby d14_16) rfl kont) ?_
  refine own_bk (S' := (T20.setTop (mkF m 57 #[rv b, iv (0 : Int32), iv (3 : Int32), rv a9, iv (3 : Int32), .unset] []))) (fun t_ kont => XS.icmpYes X24.here hx rfl (pc0 := 17) (pc' := 57) rfl (hb hby d14_17) rfl (teq (by decide : ((3 : Int32)) = ((3 : Int32)))).1 (by decide) (by decide) kont) ?_
  refine own_bk (S' := (T20.setTop (mkF m 58 #[rv b, iv (0 : Int32), iv (3 : Int32), rv a9, iv (3 : Int32), .unset] [(.ref a9)]))) (fun t_ kont => XS.aloadN X24.here hx rfl (hb hby d14_57) rfl rfl kont) ?_
  exact own_retA X24 hx hlk Bd.returns rfl rfl rfl (hb hby d14_58) ⟨N33, O_, K37, _, _, _, rfl, Vd_⟩ (by decide) (by decide)
theorem d16_0 : decode jdk_52_method_15_code 0 = .ok (.iload_n 1, 1) := by decide +kernel
theorem d16_1 : decode jdk_52_method_15_code 1 = .ok (.aload_n 0, 1) := by decide +kernel
theorem d16_2 : decode jdk_52_method_15_code 2 = .ok (.arraylength, 1) := by decide +kernel
theorem d16_3 : decode jdk_52_method_15_code 3 = .ok (.isub, 1) := by decide +kernel
theorem d16_4 : decode jdk_52_method_15_code 4 = .ok (.bipush 31, 2) := by decide +kernel
theorem d16_6 : decode jdk_52_method_15_code 6 = .ok (.iushr, 1) := by decide +kernel
theorem d16_7 : decode jdk_52_method_15_code 7 = .ok (.i2b, 1) := by decide +kernel
theorem d16_8 : decode jdk_52_method_15_code 8 = .ok (.ireturn, 1) := by decide +kernel
theorem ef_rmCL22 (m : MethodId) (x0 : Addr) (x1 : Int32) : entryFrame m #[(.ref x0), (.int x1)] 2 = mkF m 0 #[.val (.ref x0), .val (.int x1)] [] := by first | (simp [entryFrame, mkF, argsToLocals, Value.category, maxLocals]; done) | rfl
def Q_rmCL22 (Z : State) (d : Addr) (kd : ClassId) (vs : List Value) (h0 : Heap) (n0 : Nat) (v : Option Value) (h : Heap) (L : List Loc) : Prop := v = some (.int 0) ∧ Fr n0 L ∧ h = h0
set_option maxRecDepth 65536 in
set_option maxHeartbeats 40000000 in
theorem rmCL22 (l : Launch) (Z : State) (a0 : Array Value) (hw : ∀ d ∈ tables_1, d.before a0 Z = true) (ws : List Jvm.Cond) (d : Addr) (kd : ClassId) (vs : List Value) (h0 : Heap) (n0 : Nat) (Z0 : n0 ≤ h0.size) (VD : Arv Z h0 d kd .byte (2 : Int32) vs (.int (0 : Int32))) :
    MetFree l (⟨"java/lang/StringUTF16", "coderFromArrayLen", "([BI)B"⟩ : MethodName) (head1 (Jvm.Cond.code (⟨"java/lang/StringUTF16", "coderFromArrayLen", "([BI)B"⟩ : MethodName) jdk_52_method_15_code 2 (some .byte) :: ws) ({ frames := 0, cells := 0, slots := 0, locals := 0 } : Room)) (fun as_ U_ => as_ = #[(.ref d), (.int (2 : Int32))] ∧ Z.Warmed39 U_.vm ∧ U_.heap = h0) (fun _ _ _ _ _ => True) (fun _ U_ o_ U2_ => ∃ v_ L_, o_ = .returned v_ ∧ (Q_rmCL22 Z d kd vs h0 n0) v_ U2_.heap L_ ∧ FrameEnd U_ o_ U2_ L_ ({ frames := 0, cells := 0, slots := 0, locals := 0 } : Room).cells ({ frames := 0, cells := 0, slots := 0, locals := 0 } : Room).slots) := by
  refine MetFree.of_bodySF (plainFor_of_name (by first | (simp [plainName, overriddenIn]; done) | decide +kernel : plainName "java/lang/StringUTF16" = true)) hisR ?_
  intro p e s m args below meth c s₁ Bd hml0 hP hK
  obtain ⟨rfl, hZ, hh⟩ := hP
  have hx := Bd.exec
  have hby := Bd.bytes
  have hlk := Bd.notSynchronized
  have hml : c.maxLocals = 2 := hml0
  have hown : s.vm.findClass "java/lang/StringUTF16" = some m.cls := findClass_of_methodNamed Bd.named
  have hnm := (name_of_methodNamed Bd.named Bd.method).1
  have X0 : Stand p l e ({ frames := 0, cells := 0, slots := 0, locals := 0 } : Room) s m #[(.ref d), (.int (2 : Int32))] below meth c s₁ [] 0 0 := Stand.of_body Bd
  have e0 : s₁.heap = h0 := by rw [← hh, Bd.state]; rfl
  have N0 := Fr.nil n0
  show own_Go p e below (own_R s below (Q_rmCL22 Z d kd vs h0 n0) ({ frames := 0, cells := 0, slots := 0, locals := 0 } : Room).cells ({ frames := 0, cells := 0, slots := 0, locals := 0 } : Room).slots) (s₁.setTop (entryFrame m #[(.ref d), (.int (2 : Int32))] 2))
  refine own_bk (S' := (s₁.setTop (mkF m 0 #[rv d, iv (2 : Int32)] []))) (fun t_ kont => castTop (ef_rmCL22 m (d) ((2 : Int32))) kont) ?_
  refine own_bk (S' := (s₁.setTop (mkF m 1 #[rv d, iv (2 : Int32)] [(.int (2 : Int32))]))) (fun t_ kont => XS.iloadN X0.here hx rfl (hb hby d16_0) rfl kont) ?_
  refine own_bk (S' := (s₁.setTop (mkF m 2 #[rv d, iv (2 : Int32)] [(.ref d), (.int (2 : Int32))]))) (fun t_ kont => XS.aloadN X0.here hx rfl (hb hby d16_1) rfl rfl kont) ?_
  obtain ⟨c1, A2, q3, S4, M5, H6, U7⟩ := id VD
  refine own_bk (S' := (s₁.setTop (mkF m 3 #[rv d, iv (2 : Int32)] [(.int c1.slots.size.toInt32), (.int (2 : Int32))]))) (fun t_ kont => X0.arraylength hx (cell := c1) (by rw [show s₁.heap = h0 from e0]; exact A2.1) (State.isArrayOf_alike hZ.alike A2.2.1) (g := (mkF m 2 #[rv d, iv (2 : Int32)] [(.ref d), (.int (2 : Int32))])) rfl rfl (hb hby d16_2) _ kont) ?_
  rw [len_of S4 M5]
  refine own_bk (S' := (s₁.setTop (mkF m 4 #[rv d, iv (2 : Int32)] [(.int ((2 : Int32) - (2 : Int32)))]))) (fun t_ kont => XS.isub X0.here hx rfl (hb hby d16_3) rfl kont) ?_
  refine own_bk (S' := (s₁.setTop (mkF m 6 #[rv d, iv (2 : Int32)] [(.int (31 : Int32)), (.int ((2 : Int32) - (2 : Int32)))]))) (fun t_ kont => XS.bipush X0.here hx rfl (hb hby d16_4) kont) ?_
  refine own_bk (S' := (s₁.setTop (mkF m 7 #[rv d, iv (2 : Int32)] [(.int (((2 : Int32) - (2 : Int32)).toUInt32 >>> ((31 : Int32) &&& 31).toUInt32).toInt32)]))) (fun t_ kont => XS.iushr X0.here hx rfl (hb hby d16_6) rfl kont) ?_
  refine own_bk (S' := (s₁.setTop (mkF m 8 #[rv d, iv (2 : Int32)] [(.int ((((2 : Int32) - (2 : Int32)).toUInt32 >>> ((31 : Int32) &&& 31).toUInt32).toInt32.toInt8.toInt32))]))) (fun t_ kont => XS.i2b X0.here hx rfl (hb hby d16_7) rfl kont) ?_
  exact own_retN X0 hx hlk (t := .byte) (w := (0 : Int32)) Bd.returns (by simp) (hb hby d16_8) (by decide) ⟨rfl, N0, e0⟩ (by decide) (by decide)
theorem ef_rmCL24 (m : MethodId) (x0 : Addr) (x1 : Int32) : entryFrame m #[(.ref x0), (.int x1)] 2 = mkF m 0 #[.val (.ref x0), .val (.int x1)] [] := by first | (simp [entryFrame, mkF, argsToLocals, Value.category, maxLocals]; done) | rfl
def Q_rmCL24 (Z : State) (d : Addr) (kd : ClassId) (vs : List Value) (h0 : Heap) (n0 : Nat) (v : Option Value) (h : Heap) (L : List Loc) : Prop := v = some (.int 1) ∧ Fr n0 L ∧ h = h0
set_option maxRecDepth 65536 in
set_option maxHeartbeats 40000000 in
theorem rmCL24 (l : Launch) (Z : State) (a0 : Array Value) (hw : ∀ d ∈ tables_1, d.before a0 Z = true) (ws : List Jvm.Cond) (d : Addr) (kd : ClassId) (vs : List Value) (h0 : Heap) (n0 : Nat) (Z0 : n0 ≤ h0.size) (VD : Arv Z h0 d kd .byte (4 : Int32) vs (.int (0 : Int32))) :
    MetFree l (⟨"java/lang/StringUTF16", "coderFromArrayLen", "([BI)B"⟩ : MethodName) (head1 (Jvm.Cond.code (⟨"java/lang/StringUTF16", "coderFromArrayLen", "([BI)B"⟩ : MethodName) jdk_52_method_15_code 2 (some .byte) :: ws) ({ frames := 0, cells := 0, slots := 0, locals := 0 } : Room)) (fun as_ U_ => as_ = #[(.ref d), (.int (2 : Int32))] ∧ Z.Warmed39 U_.vm ∧ U_.heap = h0) (fun _ _ _ _ _ => True) (fun _ U_ o_ U2_ => ∃ v_ L_, o_ = .returned v_ ∧ (Q_rmCL24 Z d kd vs h0 n0) v_ U2_.heap L_ ∧ FrameEnd U_ o_ U2_ L_ ({ frames := 0, cells := 0, slots := 0, locals := 0 } : Room).cells ({ frames := 0, cells := 0, slots := 0, locals := 0 } : Room).slots) := by
  refine MetFree.of_bodySF (plainFor_of_name (by first | (simp [plainName, overriddenIn]; done) | decide +kernel : plainName "java/lang/StringUTF16" = true)) hisR ?_
  intro p e s m args below meth c s₁ Bd hml0 hP hK
  obtain ⟨rfl, hZ, hh⟩ := hP
  have hx := Bd.exec
  have hby := Bd.bytes
  have hlk := Bd.notSynchronized
  have hml : c.maxLocals = 2 := hml0
  have hown : s.vm.findClass "java/lang/StringUTF16" = some m.cls := findClass_of_methodNamed Bd.named
  have hnm := (name_of_methodNamed Bd.named Bd.method).1
  have X0 : Stand p l e ({ frames := 0, cells := 0, slots := 0, locals := 0 } : Room) s m #[(.ref d), (.int (2 : Int32))] below meth c s₁ [] 0 0 := Stand.of_body Bd
  have e0 : s₁.heap = h0 := by rw [← hh, Bd.state]; rfl
  have N0 := Fr.nil n0
  show own_Go p e below (own_R s below (Q_rmCL24 Z d kd vs h0 n0) ({ frames := 0, cells := 0, slots := 0, locals := 0 } : Room).cells ({ frames := 0, cells := 0, slots := 0, locals := 0 } : Room).slots) (s₁.setTop (entryFrame m #[(.ref d), (.int (2 : Int32))] 2))
  refine own_bk (S' := (s₁.setTop (mkF m 0 #[rv d, iv (2 : Int32)] []))) (fun t_ kont => castTop (ef_rmCL24 m (d) ((2 : Int32))) kont) ?_
  refine own_bk (S' := (s₁.setTop (mkF m 1 #[rv d, iv (2 : Int32)] [(.int (2 : Int32))]))) (fun t_ kont => XS.iloadN X0.here hx rfl (hb hby d16_0) rfl kont) ?_
  refine own_bk (S' := (s₁.setTop (mkF m 2 #[rv d, iv (2 : Int32)] [(.ref d), (.int (2 : Int32))]))) (fun t_ kont => XS.aloadN X0.here hx rfl (hb hby d16_1) rfl rfl kont) ?_
  obtain ⟨c1, A2, q3, S4, M5, H6, U7⟩ := id VD
  refine own_bk (S' := (s₁.setTop (mkF m 3 #[rv d, iv (2 : Int32)] [(.int c1.slots.size.toInt32), (.int (2 : Int32))]))) (fun t_ kont => X0.arraylength hx (cell := c1) (by rw [show s₁.heap = h0 from e0]; exact A2.1) (State.isArrayOf_alike hZ.alike A2.2.1) (g := (mkF m 2 #[rv d, iv (2 : Int32)] [(.ref d), (.int (2 : Int32))])) rfl rfl (hb hby d16_2) _ kont) ?_
  rw [len_of S4 M5]
  refine own_bk (S' := (s₁.setTop (mkF m 4 #[rv d, iv (2 : Int32)] [(.int ((2 : Int32) - (4 : Int32)))]))) (fun t_ kont => XS.isub X0.here hx rfl (hb hby d16_3) rfl kont) ?_
  refine own_bk (S' := (s₁.setTop (mkF m 6 #[rv d, iv (2 : Int32)] [(.int (31 : Int32)), (.int ((2 : Int32) - (4 : Int32)))]))) (fun t_ kont => XS.bipush X0.here hx rfl (hb hby d16_4) kont) ?_
  refine own_bk (S' := (s₁.setTop (mkF m 7 #[rv d, iv (2 : Int32)] [(.int (((2 : Int32) - (4 : Int32)).toUInt32 >>> ((31 : Int32) &&& 31).toUInt32).toInt32)]))) (fun t_ kont => XS.iushr X0.here hx rfl (hb hby d16_6) rfl kont) ?_
  refine own_bk (S' := (s₁.setTop (mkF m 8 #[rv d, iv (2 : Int32)] [(.int ((((2 : Int32) - (4 : Int32)).toUInt32 >>> ((31 : Int32) &&& 31).toUInt32).toInt32.toInt8.toInt32))]))) (fun t_ kont => XS.i2b X0.here hx rfl (hb hby d16_7) rfl kont) ?_
  exact own_retN X0 hx hlk (t := .byte) (w := (1 : Int32)) Bd.returns (by simp) (hb hby d16_8) (by decide) ⟨rfl, N0, e0⟩ (by decide) (by decide)
theorem ef_rmCL33 (m : MethodId) (x0 : Addr) (x1 : Int32) : entryFrame m #[(.ref x0), (.int x1)] 2 = mkF m 0 #[.val (.ref x0), .val (.int x1)] [] := by first | (simp [entryFrame, mkF, argsToLocals, Value.category, maxLocals]; done) | rfl
def Q_rmCL33 (Z : State) (d : Addr) (kd : ClassId) (vs : List Value) (h0 : Heap) (n0 : Nat) (v : Option Value) (h : Heap) (L : List Loc) : Prop := v = some (.int 0) ∧ Fr n0 L ∧ h = h0
set_option maxRecDepth 65536 in
set_option maxHeartbeats 40000000 in
theorem rmCL33 (l : Launch) (Z : State) (a0 : Array Value) (hw : ∀ d ∈ tables_1, d.before a0 Z = true) (ws : List Jvm.Cond) (d : Addr) (kd : ClassId) (vs : List Value) (h0 : Heap) (n0 : Nat) (Z0 : n0 ≤ h0.size) (VD : Arv Z h0 d kd .byte (3 : Int32) vs (.int (0 : Int32))) :
    MetFree l (⟨"java/lang/StringUTF16", "coderFromArrayLen", "([BI)B"⟩ : MethodName) (head1 (Jvm.Cond.code (⟨"java/lang/StringUTF16", "coderFromArrayLen", "([BI)B"⟩ : MethodName) jdk_52_method_15_code 2 (some .byte) :: ws) ({ frames := 0, cells := 0, slots := 0, locals := 0 } : Room)) (fun as_ U_ => as_ = #[(.ref d), (.int (3 : Int32))] ∧ Z.Warmed39 U_.vm ∧ U_.heap = h0) (fun _ _ _ _ _ => True) (fun _ U_ o_ U2_ => ∃ v_ L_, o_ = .returned v_ ∧ (Q_rmCL33 Z d kd vs h0 n0) v_ U2_.heap L_ ∧ FrameEnd U_ o_ U2_ L_ ({ frames := 0, cells := 0, slots := 0, locals := 0 } : Room).cells ({ frames := 0, cells := 0, slots := 0, locals := 0 } : Room).slots) := by
  refine MetFree.of_bodySF (plainFor_of_name (by first | (simp [plainName, overriddenIn]; done) | decide +kernel : plainName "java/lang/StringUTF16" = true)) hisR ?_
  intro p e s m args below meth c s₁ Bd hml0 hP hK
  obtain ⟨rfl, hZ, hh⟩ := hP
  have hx := Bd.exec
  have hby := Bd.bytes
  have hlk := Bd.notSynchronized
  have hml : c.maxLocals = 2 := hml0
  have hown : s.vm.findClass "java/lang/StringUTF16" = some m.cls := findClass_of_methodNamed Bd.named
  have hnm := (name_of_methodNamed Bd.named Bd.method).1
  have X0 : Stand p l e ({ frames := 0, cells := 0, slots := 0, locals := 0 } : Room) s m #[(.ref d), (.int (3 : Int32))] below meth c s₁ [] 0 0 := Stand.of_body Bd
  have e0 : s₁.heap = h0 := by rw [← hh, Bd.state]; rfl
  have N0 := Fr.nil n0
  show own_Go p e below (own_R s below (Q_rmCL33 Z d kd vs h0 n0) ({ frames := 0, cells := 0, slots := 0, locals := 0 } : Room).cells ({ frames := 0, cells := 0, slots := 0, locals := 0 } : Room).slots) (s₁.setTop (entryFrame m #[(.ref d), (.int (3 : Int32))] 2))
  refine own_bk (S' := (s₁.setTop (mkF m 0 #[rv d, iv (3 : Int32)] []))) (fun t_ kont => castTop (ef_rmCL33 m (d) ((3 : Int32))) kont) ?_
  refine own_bk (S' := (s₁.setTop (mkF m 1 #[rv d, iv (3 : Int32)] [(.int (3 : Int32))]))) (fun t_ kont => XS.iloadN X0.here hx rfl (hb hby d16_0) rfl kont) ?_
  refine own_bk (S' := (s₁.setTop (mkF m 2 #[rv d, iv (3 : Int32)] [(.ref d), (.int (3 : Int32))]))) (fun t_ kont => XS.aloadN X0.here hx rfl (hb hby d16_1) rfl rfl kont) ?_
  obtain ⟨c1, A2, q3, S4, M5, H6, U7⟩ := id VD
  refine own_bk (S' := (s₁.setTop (mkF m 3 #[rv d, iv (3 : Int32)] [(.int c1.slots.size.toInt32), (.int (3 : Int32))]))) (fun t_ kont => X0.arraylength hx (cell := c1) (by rw [show s₁.heap = h0 from e0]; exact A2.1) (State.isArrayOf_alike hZ.alike A2.2.1) (g := (mkF m 2 #[rv d, iv (3 : Int32)] [(.ref d), (.int (3 : Int32))])) rfl rfl (hb hby d16_2) _ kont) ?_
  rw [len_of S4 M5]
  refine own_bk (S' := (s₁.setTop (mkF m 4 #[rv d, iv (3 : Int32)] [(.int ((3 : Int32) - (3 : Int32)))]))) (fun t_ kont => XS.isub X0.here hx rfl (hb hby d16_3) rfl kont) ?_
  refine own_bk (S' := (s₁.setTop (mkF m 6 #[rv d, iv (3 : Int32)] [(.int (31 : Int32)), (.int ((3 : Int32) - (3 : Int32)))]))) (fun t_ kont => XS.bipush X0.here hx rfl (hb hby d16_4) kont) ?_
  refine own_bk (S' := (s₁.setTop (mkF m 7 #[rv d, iv (3 : Int32)] [(.int (((3 : Int32) - (3 : Int32)).toUInt32 >>> ((31 : Int32) &&& 31).toUInt32).toInt32)]))) (fun t_ kont => XS.iushr X0.here hx rfl (hb hby d16_6) rfl kont) ?_
  refine own_bk (S' := (s₁.setTop (mkF m 8 #[rv d, iv (3 : Int32)] [(.int ((((3 : Int32) - (3 : Int32)).toUInt32 >>> ((31 : Int32) &&& 31).toUInt32).toInt32.toInt8.toInt32))]))) (fun t_ kont => XS.i2b X0.here hx rfl (hb hby d16_7) rfl kont) ?_
  exact own_retN X0 hx hlk (t := .byte) (w := (0 : Int32)) Bd.returns (by simp) (hb hby d16_8) (by decide) ⟨rfl, N0, e0⟩ (by decide) (by decide)
theorem ef_rmCL36 (m : MethodId) (x0 : Addr) (x1 : Int32) : entryFrame m #[(.ref x0), (.int x1)] 2 = mkF m 0 #[.val (.ref x0), .val (.int x1)] [] := by first | (simp [entryFrame, mkF, argsToLocals, Value.category, maxLocals]; done) | rfl
def Q_rmCL36 (Z : State) (d : Addr) (kd : ClassId) (vs : List Value) (h0 : Heap) (n0 : Nat) (v : Option Value) (h : Heap) (L : List Loc) : Prop := v = some (.int 1) ∧ Fr n0 L ∧ h = h0
set_option maxRecDepth 65536 in
set_option maxHeartbeats 40000000 in
theorem rmCL36 (l : Launch) (Z : State) (a0 : Array Value) (hw : ∀ d ∈ tables_1, d.before a0 Z = true) (ws : List Jvm.Cond) (d : Addr) (kd : ClassId) (vs : List Value) (h0 : Heap) (n0 : Nat) (Z0 : n0 ≤ h0.size) (VD : Arv Z h0 d kd .byte (6 : Int32) vs (.int (0 : Int32))) :
    MetFree l (⟨"java/lang/StringUTF16", "coderFromArrayLen", "([BI)B"⟩ : MethodName) (head1 (Jvm.Cond.code (⟨"java/lang/StringUTF16", "coderFromArrayLen", "([BI)B"⟩ : MethodName) jdk_52_method_15_code 2 (some .byte) :: ws) ({ frames := 0, cells := 0, slots := 0, locals := 0 } : Room)) (fun as_ U_ => as_ = #[(.ref d), (.int (3 : Int32))] ∧ Z.Warmed39 U_.vm ∧ U_.heap = h0) (fun _ _ _ _ _ => True) (fun _ U_ o_ U2_ => ∃ v_ L_, o_ = .returned v_ ∧ (Q_rmCL36 Z d kd vs h0 n0) v_ U2_.heap L_ ∧ FrameEnd U_ o_ U2_ L_ ({ frames := 0, cells := 0, slots := 0, locals := 0 } : Room).cells ({ frames := 0, cells := 0, slots := 0, locals := 0 } : Room).slots) := by
  refine MetFree.of_bodySF (plainFor_of_name (by first | (simp [plainName, overriddenIn]; done) | decide +kernel : plainName "java/lang/StringUTF16" = true)) hisR ?_
  intro p e s m args below meth c s₁ Bd hml0 hP hK
  obtain ⟨rfl, hZ, hh⟩ := hP
  have hx := Bd.exec
  have hby := Bd.bytes
  have hlk := Bd.notSynchronized
  have hml : c.maxLocals = 2 := hml0
  have hown : s.vm.findClass "java/lang/StringUTF16" = some m.cls := findClass_of_methodNamed Bd.named
  have hnm := (name_of_methodNamed Bd.named Bd.method).1
  have X0 : Stand p l e ({ frames := 0, cells := 0, slots := 0, locals := 0 } : Room) s m #[(.ref d), (.int (3 : Int32))] below meth c s₁ [] 0 0 := Stand.of_body Bd
  have e0 : s₁.heap = h0 := by rw [← hh, Bd.state]; rfl
  have N0 := Fr.nil n0
  show own_Go p e below (own_R s below (Q_rmCL36 Z d kd vs h0 n0) ({ frames := 0, cells := 0, slots := 0, locals := 0 } : Room).cells ({ frames := 0, cells := 0, slots := 0, locals := 0 } : Room).slots) (s₁.setTop (entryFrame m #[(.ref d), (.int (3 : Int32))] 2))
  refine own_bk (S' := (s₁.setTop (mkF m 0 #[rv d, iv (3 : Int32)] []))) (fun t_ kont => castTop (ef_rmCL36 m (d) ((3 : Int32))) kont) ?_
  refine own_bk (S' := (s₁.setTop (mkF m 1 #[rv d, iv (3 : Int32)] [(.int (3 : Int32))]))) (fun t_ kont => XS.iloadN X0.here hx rfl (hb hby d16_0) rfl kont) ?_
  refine own_bk (S' := (s₁.setTop (mkF m 2 #[rv d, iv (3 : Int32)] [(.ref d), (.int (3 : Int32))]))) (fun t_ kont => XS.aloadN X0.here hx rfl (hb hby d16_1) rfl rfl kont) ?_
  obtain ⟨c1, A2, q3, S4, M5, H6, U7⟩ := id VD
  refine own_bk (S' := (s₁.setTop (mkF m 3 #[rv d, iv (3 : Int32)] [(.int c1.slots.size.toInt32), (.int (3 : Int32))]))) (fun t_ kont => X0.arraylength hx (cell := c1) (by rw [show s₁.heap = h0 from e0]; exact A2.1) (State.isArrayOf_alike hZ.alike A2.2.1) (g := (mkF m 2 #[rv d, iv (3 : Int32)] [(.ref d), (.int (3 : Int32))])) rfl rfl (hb hby d16_2) _ kont) ?_
  rw [len_of S4 M5]
  refine own_bk (S' := (s₁.setTop (mkF m 4 #[rv d, iv (3 : Int32)] [(.int ((3 : Int32) - (6 : Int32)))]))) (fun t_ kont => XS.isub X0.here hx rfl (hb hby d16_3) rfl kont) ?_
  refine own_bk (S' := (s₁.setTop (mkF m 6 #[rv d, iv (3 : Int32)] [(.int (31 : Int32)), (.int ((3 : Int32) - (6 : Int32)))]))) (fun t_ kont => XS.bipush X0.here hx rfl (hb hby d16_4) kont) ?_
  refine own_bk (S' := (s₁.setTop (mkF m 7 #[rv d, iv (3 : Int32)] [(.int (((3 : Int32) - (6 : Int32)).toUInt32 >>> ((31 : Int32) &&& 31).toUInt32).toInt32)]))) (fun t_ kont => XS.iushr X0.here hx rfl (hb hby d16_6) rfl kont) ?_
  refine own_bk (S' := (s₁.setTop (mkF m 8 #[rv d, iv (3 : Int32)] [(.int ((((3 : Int32) - (6 : Int32)).toUInt32 >>> ((31 : Int32) &&& 31).toUInt32).toInt32.toInt8.toInt32))]))) (fun t_ kont => XS.i2b X0.here hx rfl (hb hby d16_7) rfl kont) ?_
  exact own_retN X0 hx hlk (t := .byte) (w := (1 : Int32)) Bd.returns (by simp) (hb hby d16_8) (by decide) ⟨rfl, N0, e0⟩ (by decide) (by decide)
theorem d12_0 : decode jdk_42_method_149_code 0 = .ok (.aload_n 0, 1) := by decide +kernel
theorem d12_1 : decode jdk_42_method_149_code 1 = .ok (.invokespecial 1, 3) := by decide +kernel
theorem d12_4 : decode jdk_42_method_149_code 4 = .ok (.iload_n 3, 1) := by decide +kernel
theorem d12_5 : decode jdk_42_method_149_code 5 = .ok (.ifCond .ne 22, 3) := by decide +kernel
theorem d12_8 : decode jdk_42_method_149_code 8 = .ok (.aload_n 0, 1) := by decide +kernel
theorem d12_9 : decode jdk_42_method_149_code 9 = .ok (.ldc 7, 2) := by decide +kernel
theorem d12_11 : decode jdk_42_method_149_code 11 = .ok (.getfield 9, 3) := by decide +kernel
theorem d12_14 : decode jdk_42_method_149_code 14 = .ok (.putfield 9, 3) := by decide +kernel
theorem d12_17 : decode jdk_42_method_149_code 17 = .ok (.aload_n 0, 1) := by decide +kernel
theorem d12_18 : decode jdk_42_method_149_code 18 = .ok (.ldc 7, 2) := by decide +kernel
theorem d12_20 : decode jdk_42_method_149_code 20 = .ok (.getfield 15, 3) := by decide +kernel
theorem d12_23 : decode jdk_42_method_149_code 23 = .ok (.putfield 15, 3) := by decide +kernel
theorem d12_26 : decode jdk_42_method_149_code 26 = .ok (.return_, 1) := by decide +kernel
theorem d12_27 : decode jdk_42_method_149_code 27 = .ok (.getstatic 38, 3) := by decide +kernel
theorem d12_30 : decode jdk_42_method_149_code 30 = .ok (.ifCond .eq 28, 3) := by decide +kernel
theorem d12_33 : decode jdk_42_method_149_code 33 = .ok (.aload_n 1, 1) := by decide +kernel
theorem d12_34 : decode jdk_42_method_149_code 34 = .ok (.iload_n 2, 1) := by decide +kernel
theorem d12_35 : decode jdk_42_method_149_code 35 = .ok (.iload_n 3, 1) := by decide +kernel
theorem d12_36 : decode jdk_42_method_149_code 36 = .ok (.invokestatic 177, 3) := by decide +kernel
theorem d12_39 : decode jdk_42_method_149_code 39 = .ok (.astore 5, 2) := by decide +kernel
theorem d12_41 : decode jdk_42_method_149_code 41 = .ok (.aload_n 0, 1) := by decide +kernel
theorem d12_42 : decode jdk_42_method_149_code 42 = .ok (.aload 5, 2) := by decide +kernel
theorem d12_44 : decode jdk_42_method_149_code 44 = .ok (.iload_n 3, 1) := by decide +kernel
theorem d12_45 : decode jdk_42_method_149_code 45 = .ok (.invokestatic 47, 3) := by decide +kernel
theorem d12_48 : decode jdk_42_method_149_code 48 = .ok (.putfield 15, 3) := by decide +kernel
theorem d12_51 : decode jdk_42_method_149_code 51 = .ok (.aload_n 0, 1) := by decide +kernel
theorem d12_52 : decode jdk_42_method_149_code 52 = .ok (.aload 5, 2) := by decide +kernel
theorem d12_54 : decode jdk_42_method_149_code 54 = .ok (.putfield 9, 3) := by decide +kernel
theorem d12_57 : decode jdk_42_method_149_code 57 = .ok (.return_, 1) := by decide +kernel
theorem d12_58 : decode jdk_42_method_149_code 58 = .ok (.aload_n 0, 1) := by decide +kernel
theorem d12_59 : decode jdk_42_method_149_code 59 = .ok (.iconst 1, 1) := by decide +kernel
theorem d12_60 : decode jdk_42_method_149_code 60 = .ok (.putfield 15, 3) := by decide +kernel
theorem d12_63 : decode jdk_42_method_149_code 63 = .ok (.aload_n 0, 1) := by decide +kernel
theorem d12_64 : decode jdk_42_method_149_code 64 = .ok (.aload_n 1, 1) := by decide +kernel
theorem d12_65 : decode jdk_42_method_149_code 65 = .ok (.iload_n 2, 1) := by decide +kernel
theorem d12_66 : decode jdk_42_method_149_code 66 = .ok (.iload_n 3, 1) := by decide +kernel
theorem d12_67 : decode jdk_42_method_149_code 67 = .ok (.invokestatic 180, 3) := by decide +kernel
theorem d12_70 : decode jdk_42_method_149_code 70 = .ok (.putfield 9, 3) := by decide +kernel
theorem d12_73 : decode jdk_42_method_149_code 73 = .ok (.return_, 1) := by decide +kernel
theorem ef_rmI420 (m : MethodId) (x0 : Addr) (x1 : Addr) (x2 : Int32) (x3 : Int32) : entryFrame m #[(.ref x0), (.ref x1), (.int x2), (.int x3), .null] 6 = mkF m 0 #[.val (.ref x0), .val (.ref x1), .val (.int x2), .val (.int x3), .val .null, .unset] [] := by first | (simp [entryFrame, mkF, argsToLocals, Value.category, maxLocals]; done) | rfl
def Q_rmI420 (Z : State) (a b : Addr) (kb : ClassId) (q0 q1 cz : Int32) (h0 : Heap) (n0 : Nat) (v : Option Value) (h : Heap) (L : List Loc) : Prop := v = none ∧ Fr n0 L ∧ Old Z n0 h ∧ n0 ≤ h.size ∧ Exa Z h a "java/lang/String"
set_option maxRecDepth 65536 in
set_option maxHeartbeats 40000000 in
theorem rmI420 (l : Launch) (Z : State) (a0 : Array Value) (hw : ∀ d ∈ tables_1, d.before a0 Z = true) (ws : List Jvm.Cond) (a b : Addr) (kb : ClassId) (q0 q1 cz : Int32) (h0 : Heap) (n0 : Nat) (Z0 : n0 ≤ h0.size) (O : Old Z n0 h0) (SU : own_St Z cz) (VB : Arv Z h0 b kb .char (2 : Int32) [(.int q0), (.int q1)] (.int (0 : Int32))) (E : Exa Z h0 a "java/lang/String") (ag : n0 ≤ a) (F0 : Fld Z h0 a "java/lang/String" "value" "[B" .null) (F1 : Fld Z h0 a "java/lang/String" "coder" "B" (.int 0)) (lq0 : ¬ q0 < 0) (uq0 : ¬ (65535 : Int32) < q0) (lq1 : ¬ q1 < 0) (uq1 : ¬ (65535 : Int32) < q1)  (gq0 : (255 : Int32) < q0) :
    MetFree l (⟨"java/lang/String", "<init>", "([CIILjava/lang/Void;)V"⟩ : MethodName) (head1 (Jvm.Cond.code (⟨"java/lang/String", "<init>", "([CIILjava/lang/Void;)V"⟩ : MethodName) jdk_42_method_149_code 6 none :: ws) ({ frames := 4, cells := 2, slots := 9, locals := 90 } : Room)) (fun as_ U_ => as_ = #[(.ref a), (.ref b), (.int (0 : Int32)), (.int (2 : Int32)), .null] ∧ Z.Warmed39 U_.vm ∧ U_.heap = h0) (fun _ _ _ _ _ => True) (fun _ U_ o_ U2_ => ∃ v_ L_, o_ = .returned v_ ∧ (Q_rmI420 Z a b kb q0 q1 cz h0 n0) v_ U2_.heap L_ ∧ FrameEnd U_ o_ U2_ L_ ({ frames := 4, cells := 2, slots := 9, locals := 90 } : Room).cells ({ frames := 4, cells := 2, slots := 9, locals := 90 } : Room).slots) := by
  refine MetFree.of_bodySF (plainFor_of_name (by first | (simp [plainName, overriddenIn]; done) | decide +kernel : plainName "java/lang/String" = true)) hisR ?_
  intro p e s m args below meth c s₁ Bd hml0 hP hK
  obtain ⟨rfl, hZ, hh⟩ := hP
  have hx := Bd.exec
  have hby := Bd.bytes
  have hlk := Bd.notSynchronized
  have hml : c.maxLocals = 6 := hml0
  have hown : s.vm.findClass "java/lang/String" = some m.cls := findClass_of_methodNamed Bd.named
  have hnm := (name_of_methodNamed Bd.named Bd.method).1
  have X0 : Stand p l e ({ frames := 4, cells := 2, slots := 9, locals := 90 } : Room) s m #[(.ref a), (.ref b), (.int (0 : Int32)), (.int (2 : Int32)), .null] below meth c s₁ [] 0 0 := Stand.of_body Bd
  have e0 : s₁.heap = h0 := by rw [← hh, Bd.state]; rfl
  have N0 := Fr.nil n0
  show own_Go p e below (own_R s below (Q_rmI420 Z a b kb q0 q1 cz h0 n0) ({ frames := 4, cells := 2, slots := 9, locals := 90 } : Room).cells ({ frames := 4, cells := 2, slots := 9, locals := 90 } : Room).slots) (s₁.setTop (entryFrame m #[(.ref a), (.ref b), (.int (0 : Int32)), (.int (2 : Int32)), .null] 6))
  refine own_bk (S' := (s₁.setTop (mkF m 0 #[rv a, rv b, iv (0 : Int32), iv (2 : Int32), .val .null, .unset] []))) (fun t_ kont => castTop (ef_rmI420 m (a) (b) ((0 : Int32)) ((2 : Int32))) kont) ?_
  refine own_bk (S' := (s₁.setTop (mkF m 1 #[rv a, rv b, iv (0 : Int32), iv (2 : Int32), .val .null, .unset] [(.ref a)]))) (fun t_ kont => XS.aloadN X0.here hx rfl (hb hby d12_0) rfl rfl kont) ?_
  obtain ⟨T1, X2, e3, st4⟩ := initO X0 hx hZ hown (hw _ (List.mem_of_getElem? (i := 105) rfl)) (hw _ (List.mem_of_getElem? (i := 24) rfl)) (hw _ (List.mem_of_getElem? (i := 25) rfl)) e0 (g := (mkF m 1 #[rv a, rv b, iv (0 : Int32), iv (2 : Int32), .val .null, .unset] [(.ref a)])) rfl (by rw [hml]; rfl) rfl (hb hby d12_1) (by decide) (W := 0) (by show 2 * 0 + _ ≤ _; exact Nat.le_of_eq rfl) (by decide)
  refine own_bk (S' := (T1.setTop (mkF m 4 #[rv a, rv b, iv (0 : Int32), iv (2 : Int32), .val .null, .unset] []))) st4 ?_
  refine own_bk (S' := (T1.setTop (mkF m 5 #[rv a, rv b, iv (0 : Int32), iv (2 : Int32), .val .null, .unset] [(.int (2 : Int32))]))) (fun t_ kont => XS.iloadN X2.here hx rfl (hb hby d12_4) rfl kont) ?_
  refine own_bk (S' := (T1.setTop (mkF m 27 #[rv a, rv b, iv (0 : Int32), iv (2 : Int32), .val .null, .unset] []))) (fun t_ kont => XS.ifYes X2.here hx rfl (pc0 := 5) (pc' := 27) rfl (hb hby d12_5) rfl ((if0 _ _).trans (feq (by decide : ¬ ((2 : Int32)) = ((0 : Int32)))).2) (by decide) (by decide) kont) ?_
  obtain ⟨T5, X6, e7, st8⟩ := getS2 X2 hx hZ hown (host := "") (Or.inl (hw _ (List.mem_of_getElem? (i := 119) rfl))) Via.refl e3 (SU.1.ext O.2) (g := (mkF m 27 #[rv a, rv b, iv (0 : Int32), iv (2 : Int32), .val .null, .unset] [])) rfl (hb hby d12_27)
  refine own_bk (S' := (T5.setTop (mkF m 30 #[rv a, rv b, iv (0 : Int32), iv (2 : Int32), .val .null, .unset] [(.int cz)]))) st8 ?_
  refine own_bk (S' := (T5.setTop (mkF m 33 #[rv a, rv b, iv (0 : Int32), iv (2 : Int32), .val .null, .unset] []))) (fun t_ kont => XS.ifNo X6.here hx rfl (hb hby d12_30) rfl ((if0 _ _).trans (feq (SU.2.1)).1) kont) ?_
  refine own_bk (S' := (T5.setTop (mkF m 34 #[rv a, rv b, iv (0 : Int32), iv (2 : Int32), .val .null, .unset] [(.ref b)]))) (fun t_ kont => XS.aloadN X6.here hx rfl (hb hby d12_33) rfl rfl kont) ?_
  refine own_bk (S' := (T5.setTop (mkF m 35 #[rv a, rv b, iv (0 : Int32), iv (2 : Int32), .val .null, .unset] [(.int (0 : Int32)), (.ref b)]))) (fun t_ kont => XS.iloadN X6.here hx rfl (hb hby d12_34) rfl kont) ?_
  refine own_bk (S' := (T5.setTop (mkF m 36 #[rv a, rv b, iv (0 : Int32), iv (2 : Int32), .val .null, .unset] [(.int (2 : Int32)), (.int (0 : Int32)), (.ref b)]))) (fun t_ kont => XS.iloadN X6.here hx rfl (hb hby d12_35) rfl kont) ?_
  obtain ⟨_, _, ⟨T9, L10, k11, n12⟩, -, X13, ⟨Lc14, hQ15, l16, y17, z18⟩, st19⟩ := Jvm.LawKit.callS X6 hx (y := (⟨"java/lang/StringUTF16", "compress", "([CII)[B"⟩ : MethodName)) hown (mvT hZ (hw _ (List.mem_of_getElem? (i := 120) rfl))) (mvT hZ (hw _ (List.mem_of_getElem? (i := 121) rfl))) (mvT hZ (hw _ (List.mem_of_getElem? (i := 122) rfl))) (mvT hZ (hw _ (List.mem_of_getElem? (i := 123) rfl))) (by decide) (backOf (W := 0) (rmC320 l Z a0 hw [] b kb q0 q1 cz h0 n0 Z0 O SU VB lq0 uq0 lq1 uq1 gq0) hZ (hw _ (List.mem_of_getElem? (i := 123) rfl)) (hw _ (List.mem_of_getElem? (i := 122) rfl)) (by decide) (by decide)) (g := (mkF m 36 #[rv a, rv b, iv (0 : Int32), iv (2 : Int32), .val .null, .unset] [(.int (2 : Int32)), (.int (0 : Int32)), (.ref b)])) rfl (by rw [hml]; rfl) (argsL := [(.ref b), (.int (0 : Int32)), (.int (2 : Int32))]) (rest := []) (lenOf (by decide +kernel : parseMethodDescriptor "([CII)[B" = some ⟨[(.array .char), .int, .int], some (.array .byte)⟩) rfl) rfl (by show 2 * 0 + _ ≤ _; exact Nat.le_of_eq rfl) (hb hby d12_36) (fun _ _ => ⟨rfl, e7, (by decide : 0 + 2 ≤ _), (by decide : 0 + 9 ≤ _)⟩)
  dsimp only [Pt.U, Pt.locs, Pt.cells, Pt.slots] at X13 l16 y17 z18 st19 hQ15
  subst l16 y17 z18
  obtain ⟨N20, O_, K_, r_, kr_, vs_, rfl, Vr_⟩ := hQ15
  have N22 := Fr.app N0 N20
  have E23 := (E.keep K_)
  have F24 := (F0.keep K_ nin0)
  have F25 := (F1.keep K_ nin0)
  have Z26 := Nat.le_trans Z0 K_.1
  have O27 := O.keep K_ all0
  refine own_bk (S' := (T9.setTop (mkF m 39 #[rv a, rv b, iv (0 : Int32), iv (2 : Int32), .val .null, .unset] [(.ref r_)]))) st19 ?_
  refine own_bk (S' := (T9.setTop (mkF m 41 #[rv a, rv b, iv (0 : Int32), iv (2 : Int32), .val .null, rv r_] []))) (fun t_ kont => XS.astore X13.here hx rfl (hb hby d12_39) rfl rfl (l' := #[rv a, rv b, iv (0 : Int32), iv (2 : Int32), .val .null, rv r_]) rfl kont) ?_
  refine own_bk (S' := (T9.setTop (mkF m 42 #[rv a, rv b, iv (0 : Int32), iv (2 : Int32), .val .null, rv r_] [(.ref a)]))) (fun t_ kont => XS.aloadN X13.here hx rfl (hb hby d12_41) rfl rfl kont) ?_
  refine own_bk (S' := (T9.setTop (mkF m 44 #[rv a, rv b, iv (0 : Int32), iv (2 : Int32), .val .null, rv r_] [(.ref r_), (.ref a)]))) (fun t_ kont => XS.aload X13.here hx rfl (hb hby d12_42) rfl rfl kont) ?_
  refine own_bk (S' := (T9.setTop (mkF m 45 #[rv a, rv b, iv (0 : Int32), iv (2 : Int32), .val .null, rv r_] [(.int (2 : Int32)), (.ref r_), (.ref a)]))) (fun t_ kont => XS.iloadN X13.here hx rfl (hb hby d12_44) rfl kont) ?_
  obtain ⟨_, _, ⟨T28, L29, k30, n31⟩, -, X32, ⟨Lc33, hQ34, l35, y36, z37⟩, st38⟩ := Jvm.LawKit.callS X13 hx (y := (⟨"java/lang/StringUTF16", "coderFromArrayLen", "([BI)B"⟩ : MethodName)) hown (mvT hZ (hw _ (List.mem_of_getElem? (i := 127) rfl))) (mvT hZ (hw _ (List.mem_of_getElem? (i := 128) rfl))) (mvT hZ (hw _ (List.mem_of_getElem? (i := 122) rfl))) (mvT hZ (hw _ (List.mem_of_getElem? (i := 129) rfl))) (by decide) (backOf (W := 1) (rmCL24 l Z a0 hw [] r_ kr_ vs_ T9.heap n0 Z26 Vr_) hZ (hw _ (List.mem_of_getElem? (i := 129) rfl)) (hw _ (List.mem_of_getElem? (i := 122) rfl)) (by decide) (by decide)) (g := (mkF m 45 #[rv a, rv b, iv (0 : Int32), iv (2 : Int32), .val .null, rv r_] [(.int (2 : Int32)), (.ref r_), (.ref a)])) rfl (by rw [hml]; rfl) (argsL := [(.ref r_), (.int (2 : Int32))]) (rest := [(.ref a)]) (lenOf (by decide +kernel : parseMethodDescriptor "([BI)B" = some ⟨[(.array .byte), .int], some .byte⟩) rfl) rfl (by show 2 * 0 + _ ≤ _; exact Nat.le_of_eq rfl) (hb hby d12_45) (fun _ _ => ⟨rfl, rfl, (by decide : 2 + 0 ≤ _), (by decide : 9 + 0 ≤ _)⟩)
  dsimp only [Pt.U, Pt.locs, Pt.cells, Pt.slots] at X32 l35 y36 z37 st38 hQ34
  subst l35 y36 z37
  obtain ⟨rfl, N39, e40⟩ := hQ34
  have N41 := Fr.app N22 N39
  refine own_bk (S' := (T28.setTop (mkF m 48 #[rv a, rv b, iv (0 : Int32), iv (2 : Int32), .val .null, rv r_] [(.int (1 : Int32)), (.ref a)]))) st38 ?_
  obtain ⟨T42, h43, X44, e45, W46, st47⟩ := putF X32 hx hZ hown (host := "") (Or.inl (hw _ (List.mem_of_getElem? (i := 113) rfl))) Via.refl e40 F25 E23 (Or.inr ⟨(hw _ (List.mem_of_getElem? (i := 109) rfl)), rfl, hnm⟩) (hw _ (List.mem_of_getElem? (i := 95) rfl)) (ty := .byte) (by decide +kernel) rfl rfl (g := (mkF m 48 #[rv a, rv b, iv (0 : Int32), iv (2 : Int32), .val .null, rv r_] [(.int (1 : Int32)), (.ref a)])) rfl rfl (hb hby d12_48)
  have N48 := Fr.snoc X44 N41 ag
  have E49 := (E23.wr W46)
  have F50 := (F24.other W46 (Or.inr (slot_ne (Or.inr (hw _ (List.mem_of_getElem? (i := 108) rfl))) (Or.inr (hw _ (List.mem_of_getElem? (i := 109) rfl))) (by decide) (show parseFieldDescriptor "[B" = some (.array .byte) from by decide +kernel) (show parseFieldDescriptor "B" = some .byte from by decide +kernel))))
  have F51 := (F25.same W46)
  have Z52 := Nat.le_trans Z26 (Keep.of_wr W46).1
  have O53 := O_.wr W46 ag
  refine own_bk (S' := (T42.setTop (mkF m 51 #[rv a, rv b, iv (0 : Int32), iv (2 : Int32), .val .null, rv r_] []))) st47 ?_
  refine own_bk (S' := (T42.setTop (mkF m 52 #[rv a, rv b, iv (0 : Int32), iv (2 : Int32), .val .null, rv r_] [(.ref a)]))) (fun t_ kont => XS.aloadN X44.here hx rfl (hb hby d12_51) rfl rfl kont) ?_
  refine own_bk (S' := (T42.setTop (mkF m 54 #[rv a, rv b, iv (0 : Int32), iv (2 : Int32), .val .null, rv r_] [(.ref r_), (.ref a)]))) (fun t_ kont => XS.aload X44.here hx rfl (hb hby d12_52) rfl rfl kont) ?_
  obtain ⟨T54, h55, X56, e57, W58, st59⟩ := putF X44 hx hZ hown (host := "") (Or.inl (hw _ (List.mem_of_getElem? (i := 112) rfl))) Via.refl e45 F50 E49 (Or.inr ⟨(hw _ (List.mem_of_getElem? (i := 108) rfl)), rfl, hnm⟩) (hw _ (List.mem_of_getElem? (i := 95) rfl)) (ty := (.array .byte)) (by decide +kernel) rfl rfl (g := (mkF m 54 #[rv a, rv b, iv (0 : Int32), iv (2 : Int32), .val .null, rv r_] [(.ref r_), (.ref a)])) rfl rfl (hb hby d12_54)
  have N60 := Fr.snoc X56 N48 ag
  have E61 := (E49.wr W58)
  have F62 := (F50.same W58)
  have F63 := (F51.other W58 (Or.inr (slot_ne (Or.inr (hw _ (List.mem_of_getElem? (i := 109) rfl))) (Or.inr (hw _ (List.mem_of_getElem? (i := 108) rfl))) (by decide) (show parseFieldDescriptor "B" = some .byte from by decide +kernel) (show parseFieldDescriptor "[B" = some (.array .byte) from by decide +kernel))))
  have Z64 := Nat.le_trans Z52 (Keep.of_wr W58).1
  have O65 := O53.wr W58 ag
  refine own_bk (S' := (T54.setTop (mkF m 57 #[rv a, rv b, iv (0 : Int32), iv (2 : Int32), .val .null, rv r_] []))) st59 ?_
  exact own_retV X56 hx hlk Bd.returns (hb hby d12_57) (by rw [e57]; exact ⟨rfl, N60, O65, Z64, E61⟩) (by decide) (by decide)
theorem ef_rmI421 (m : MethodId) (x0 : Addr) (x1 : Addr) (x2 : Int32) (x3 : Int32) : entryFrame m #[(.ref x0), (.ref x1), (.int x2), (.int x3), .null] 6 = mkF m 0 #[.val (.ref x0), .val (.ref x1), .val (.int x2), .val (.int x3), .val .null, .unset] [] := by first | (simp [entryFrame, mkF, argsToLocals, Value.category, maxLocals]; done) | rfl
def Q_rmI421 (Z : State) (a b : Addr) (kb : ClassId) (q0 q1 cz : Int32) (h0 : Heap) (n0 : Nat) (v : Option Value) (h : Heap) (L : List Loc) : Prop := v = none ∧ Fr n0 L ∧ Old Z n0 h ∧ n0 ≤ h.size ∧ Exa Z h a "java/lang/String"
set_option maxRecDepth 65536 in
set_option maxHeartbeats 40000000 in
theorem rmI421 (l : Launch) (Z : State) (a0 : Array Value) (hw : ∀ d ∈ tables_1, d.before a0 Z = true) (ws : List Jvm.Cond) (a b : Addr) (kb : ClassId) (q0 q1 cz : Int32) (h0 : Heap) (n0 : Nat) (Z0 : n0 ≤ h0.size) (O : Old Z n0 h0) (SU : own_St Z cz) (VB : Arv Z h0 b kb .char (2 : Int32) [(.int q0), (.int q1)] (.int (0 : Int32))) (E : Exa Z h0 a "java/lang/String") (ag : n0 ≤ a) (F0 : Fld Z h0 a "java/lang/String" "value" "[B" .null) (F1 : Fld Z h0 a "java/lang/String" "coder" "B" (.int 0)) (lq0 : ¬ q0 < 0) (uq0 : ¬ (65535 : Int32) < q0) (lq1 : ¬ q1 < 0) (uq1 : ¬ (65535 : Int32) < q1) (gq0 : ¬ (255 : Int32) < q0) (gq1 : (255 : Int32) < q1) :
    MetFree l (⟨"java/lang/String", "<init>", "([CIILjava/lang/Void;)V"⟩ : MethodName) (head1 (Jvm.Cond.code (⟨"java/lang/String", "<init>", "([CIILjava/lang/Void;)V"⟩ : MethodName) jdk_42_method_149_code 6 none :: ws) ({ frames := 4, cells := 2, slots := 9, locals := 90 } : Room)) (fun as_ U_ => as_ = #[(.ref a), (.ref b), (.int (0 : Int32)), (.int (2 : Int32)), .null] ∧ Z.Warmed39 U_.vm ∧ U_.heap = h0) (fun _ _ _ _ _ => True) (fun _ U_ o_ U2_ => ∃ v_ L_, o_ = .returned v_ ∧ (Q_rmI421 Z a b kb q0 q1 cz h0 n0) v_ U2_.heap L_ ∧ FrameEnd U_ o_ U2_ L_ ({ frames := 4, cells := 2, slots := 9, locals := 90 } : Room).cells ({ frames := 4, cells := 2, slots := 9, locals := 90 } : Room).slots) := by
  refine MetFree.of_bodySF (plainFor_of_name (by first | (simp [plainName, overriddenIn]; done) | decide +kernel : plainName "java/lang/String" = true)) hisR ?_
  intro p e s m args below meth c s₁ Bd hml0 hP hK
  obtain ⟨rfl, hZ, hh⟩ := hP
  have hx := Bd.exec
  have hby := Bd.bytes
  have hlk := Bd.notSynchronized
  have hml : c.maxLocals = 6 := hml0
  have hown : s.vm.findClass "java/lang/String" = some m.cls := findClass_of_methodNamed Bd.named
  have hnm := (name_of_methodNamed Bd.named Bd.method).1
  have X0 : Stand p l e ({ frames := 4, cells := 2, slots := 9, locals := 90 } : Room) s m #[(.ref a), (.ref b), (.int (0 : Int32)), (.int (2 : Int32)), .null] below meth c s₁ [] 0 0 := Stand.of_body Bd
  have e0 : s₁.heap = h0 := by rw [← hh, Bd.state]; rfl
  have N0 := Fr.nil n0
  show own_Go p e below (own_R s below (Q_rmI421 Z a b kb q0 q1 cz h0 n0) ({ frames := 4, cells := 2, slots := 9, locals := 90 } : Room).cells ({ frames := 4, cells := 2, slots := 9, locals := 90 } : Room).slots) (s₁.setTop (entryFrame m #[(.ref a), (.ref b), (.int (0 : Int32)), (.int (2 : Int32)), .null] 6))
  refine own_bk (S' := (s₁.setTop (mkF m 0 #[rv a, rv b, iv (0 : Int32), iv (2 : Int32), .val .null, .unset] []))) (fun t_ kont => castTop (ef_rmI421 m (a) (b) ((0 : Int32)) ((2 : Int32))) kont) ?_
  refine own_bk (S' := (s₁.setTop (mkF m 1 #[rv a, rv b, iv (0 : Int32), iv (2 : Int32), .val .null, .unset] [(.ref a)]))) (fun t_ kont => XS.aloadN X0.here hx rfl (hb hby d12_0) rfl rfl kont) ?_
  obtain ⟨T1, X2, e3, st4⟩ := initO X0 hx hZ hown (hw _ (List.mem_of_getElem? (i := 105) rfl)) (hw _ (List.mem_of_getElem? (i := 24) rfl)) (hw _ (List.mem_of_getElem? (i := 25) rfl)) e0 (g := (mkF m 1 #[rv a, rv b, iv (0 : Int32), iv (2 : Int32), .val .null, .unset] [(.ref a)])) rfl (by rw [hml]; rfl) rfl (hb hby d12_1) (by decide) (W := 0) (by show 2 * 0 + _ ≤ _; exact Nat.le_of_eq rfl) (by decide)
  refine own_bk (S' := (T1.setTop (mkF m 4 #[rv a, rv b, iv (0 : Int32), iv (2 : Int32), .val .null, .unset] []))) st4 ?_
  refine own_bk (S' := (T1.setTop (mkF m 5 #[rv a, rv b, iv (0 : Int32), iv (2 : Int32), .val .null, .unset] [(.int (2 : Int32))]))) (fun t_ kont => XS.iloadN X2.here hx rfl (hb hby d12_4) rfl kont) ?_
  refine own_bk (S' := (T1.setTop (mkF m 27 #[rv a, rv b, iv (0 : Int32), iv (2 : Int32), .val .null, .unset] []))) (fun t_ kont => XS.ifYes X2.here hx rfl (pc0 := 5) (pc' := 27) rfl (hb hby d12_5) rfl ((if0 _ _).trans (feq (by decide : ¬ ((2 : Int32)) = ((0 : Int32)))).2) (by decide) (by decide) kont) ?_
  obtain ⟨T5, X6, e7, st8⟩ := getS2 X2 hx hZ hown (host := "") (Or.inl (hw _ (List.mem_of_getElem? (i := 119) rfl))) Via.refl e3 (SU.1.ext O.2) (g := (mkF m 27 #[rv a, rv b, iv (0 : Int32), iv (2 : Int32), .val .null, .unset] [])) rfl (hb hby d12_27)
  refine own_bk (S' := (T5.setTop (mkF m 30 #[rv a, rv b, iv (0 : Int32), iv (2 : Int32), .val .null, .unset] [(.int cz)]))) st8 ?_
  refine own_bk (S' := (T5.setTop (mkF m 33 #[rv a, rv b, iv (0 : Int32), iv (2 : Int32), .val .null, .unset] []))) (fun t_ kont => XS.ifNo X6.here hx rfl (hb hby d12_30) rfl ((if0 _ _).trans (feq (SU.2.1)).1) kont) ?_
  refine own_bk (S' := (T5.setTop (mkF m 34 #[rv a, rv b, iv (0 : Int32), iv (2 : Int32), .val .null, .unset] [(.ref b)]))) (fun t_ kont => XS.aloadN X6.here hx rfl (hb hby d12_33) rfl rfl kont) ?_
  refine own_bk (S' := (T5.setTop (mkF m 35 #[rv a, rv b, iv (0 : Int32), iv (2 : Int32), .val .null, .unset] [(.int (0 : Int32)), (.ref b)]))) (fun t_ kont => XS.iloadN X6.here hx rfl (hb hby d12_34) rfl kont) ?_
  refine own_bk (S' := (T5.setTop (mkF m 36 #[rv a, rv b, iv (0 : Int32), iv (2 : Int32), .val .null, .unset] [(.int (2 : Int32)), (.int (0 : Int32)), (.ref b)]))) (fun t_ kont => XS.iloadN X6.here hx rfl (hb hby d12_35) rfl kont) ?_
  obtain ⟨_, _, ⟨T9, L10, k11, n12⟩, -, X13, ⟨Lc14, hQ15, l16, y17, z18⟩, st19⟩ := Jvm.LawKit.callS X6 hx (y := (⟨"java/lang/StringUTF16", "compress", "([CII)[B"⟩ : MethodName)) hown (mvT hZ (hw _ (List.mem_of_getElem? (i := 120) rfl))) (mvT hZ (hw _ (List.mem_of_getElem? (i := 121) rfl))) (mvT hZ (hw _ (List.mem_of_getElem? (i := 122) rfl))) (mvT hZ (hw _ (List.mem_of_getElem? (i := 123) rfl))) (by decide) (backOf (W := 0) (rmC321 l Z a0 hw [] b kb q0 q1 cz h0 n0 Z0 O SU VB lq0 uq0 lq1 uq1 gq0 gq1) hZ (hw _ (List.mem_of_getElem? (i := 123) rfl)) (hw _ (List.mem_of_getElem? (i := 122) rfl)) (by decide) (by decide)) (g := (mkF m 36 #[rv a, rv b, iv (0 : Int32), iv (2 : Int32), .val .null, .unset] [(.int (2 : Int32)), (.int (0 : Int32)), (.ref b)])) rfl (by rw [hml]; rfl) (argsL := [(.ref b), (.int (0 : Int32)), (.int (2 : Int32))]) (rest := []) (lenOf (by decide +kernel : parseMethodDescriptor "([CII)[B" = some ⟨[(.array .char), .int, .int], some (.array .byte)⟩) rfl) rfl (by show 2 * 0 + _ ≤ _; exact Nat.le_of_eq rfl) (hb hby d12_36) (fun _ _ => ⟨rfl, e7, (by decide : 0 + 2 ≤ _), (by decide : 0 + 9 ≤ _)⟩)
  dsimp only [Pt.U, Pt.locs, Pt.cells, Pt.slots] at X13 l16 y17 z18 st19 hQ15
  subst l16 y17 z18
  obtain ⟨N20, O_, K_, r_, kr_, vs_, rfl, Vr_⟩ := hQ15
  have N22 := Fr.app N0 N20
  have E23 := (E.keep K_)
  have F24 := (F0.keep K_ nin0)
  have F25 := (F1.keep K_ nin0)
  have Z26 := Nat.le_trans Z0 K_.1
  have O27 := O.keep K_ all0
  refine own_bk (S' := (T9.setTop (mkF m 39 #[rv a, rv b, iv (0 : Int32), iv (2 : Int32), .val .null, .unset] [(.ref r_)]))) st19 ?_
  refine own_bk (S' := (T9.setTop (mkF m 41 #[rv a, rv b, iv (0 : Int32), iv (2 : Int32), .val .null, rv r_] []))) (fun t_ kont => XS.astore X13.here hx rfl (hb hby d12_39) rfl rfl (l' := #[rv a, rv b, iv (0 : Int32), iv (2 : Int32), .val .null, rv r_]) rfl kont) ?_
  refine own_bk (S' := (T9.setTop (mkF m 42 #[rv a, rv b, iv (0 : Int32), iv (2 : Int32), .val .null, rv r_] [(.ref a)]))) (fun t_ kont => XS.aloadN X13.here hx rfl (hb hby d12_41) rfl rfl kont) ?_
  refine own_bk (S' := (T9.setTop (mkF m 44 #[rv a, rv b, iv (0 : Int32), iv (2 : Int32), .val .null, rv r_] [(.ref r_), (.ref a)]))) (fun t_ kont => XS.aload X13.here hx rfl (hb hby d12_42) rfl rfl kont) ?_
  refine own_bk (S' := (T9.setTop (mkF m 45 #[rv a, rv b, iv (0 : Int32), iv (2 : Int32), .val .null, rv r_] [(.int (2 : Int32)), (.ref r_), (.ref a)]))) (fun t_ kont => XS.iloadN X13.here hx rfl (hb hby d12_44) rfl kont) ?_
  obtain ⟨_, _, ⟨T28, L29, k30, n31⟩, -, X32, ⟨Lc33, hQ34, l35, y36, z37⟩, st38⟩ := Jvm.LawKit.callS X13 hx (y := (⟨"java/lang/StringUTF16", "coderFromArrayLen", "([BI)B"⟩ : MethodName)) hown (mvT hZ (hw _ (List.mem_of_getElem? (i := 127) rfl))) (mvT hZ (hw _ (List.mem_of_getElem? (i := 128) rfl))) (mvT hZ (hw _ (List.mem_of_getElem? (i := 122) rfl))) (mvT hZ (hw _ (List.mem_of_getElem? (i := 129) rfl))) (by decide) (backOf (W := 1) (rmCL24 l Z a0 hw [] r_ kr_ vs_ T9.heap n0 Z26 Vr_) hZ (hw _ (List.mem_of_getElem? (i := 129) rfl)) (hw _ (List.mem_of_getElem? (i := 122) rfl)) (by decide) (by decide)) (g := (mkF m 45 #[rv a, rv b, iv (0 : Int32), iv (2 : Int32), .val .null, rv r_] [(.int (2 : Int32)), (.ref r_), (.ref a)])) rfl (by rw [hml]; rfl) (argsL := [(.ref r_), (.int (2 : Int32))]) (rest := [(.ref a)]) (lenOf (by decide +kernel : parseMethodDescriptor "([BI)B" = some ⟨[(.array .byte), .int], some .byte⟩) rfl) rfl (by show 2 * 0 + _ ≤ _; exact Nat.le_of_eq rfl) (hb hby d12_45) (fun _ _ => ⟨rfl, rfl, (by decide : 2 + 0 ≤ _), (by decide : 9 + 0 ≤ _)⟩)
  dsimp only [Pt.U, Pt.locs, Pt.cells, Pt.slots] at X32 l35 y36 z37 st38 hQ34
  subst l35 y36 z37
  obtain ⟨rfl, N39, e40⟩ := hQ34
  have N41 := Fr.app N22 N39
  refine own_bk (S' := (T28.setTop (mkF m 48 #[rv a, rv b, iv (0 : Int32), iv (2 : Int32), .val .null, rv r_] [(.int (1 : Int32)), (.ref a)]))) st38 ?_
  obtain ⟨T42, h43, X44, e45, W46, st47⟩ := putF X32 hx hZ hown (host := "") (Or.inl (hw _ (List.mem_of_getElem? (i := 113) rfl))) Via.refl e40 F25 E23 (Or.inr ⟨(hw _ (List.mem_of_getElem? (i := 109) rfl)), rfl, hnm⟩) (hw _ (List.mem_of_getElem? (i := 95) rfl)) (ty := .byte) (by decide +kernel) rfl rfl (g := (mkF m 48 #[rv a, rv b, iv (0 : Int32), iv (2 : Int32), .val .null, rv r_] [(.int (1 : Int32)), (.ref a)])) rfl rfl (hb hby d12_48)
  have N48 := Fr.snoc X44 N41 ag
  have E49 := (E23.wr W46)
  have F50 := (F24.other W46 (Or.inr (slot_ne (Or.inr (hw _ (List.mem_of_getElem? (i := 108) rfl))) (Or.inr (hw _ (List.mem_of_getElem? (i := 109) rfl))) (by decide) (show parseFieldDescriptor "[B" = some (.array .byte) from by decide +kernel) (show parseFieldDescriptor "B" = some .byte from by decide +kernel))))
  have F51 := (F25.same W46)
  have Z52 := Nat.le_trans Z26 (Keep.of_wr W46).1
  have O53 := O_.wr W46 ag
  refine own_bk (S' := (T42.setTop (mkF m 51 #[rv a, rv b, iv (0 : Int32), iv (2 : Int32), .val .null, rv r_] []))) st47 ?_
  refine own_bk (S' := (T42.setTop (mkF m 52 #[rv a, rv b, iv (0 : Int32), iv (2 : Int32), .val .null, rv r_] [(.ref a)]))) (fun t_ kont => XS.aloadN X44.here hx rfl (hb hby d12_51) rfl rfl kont) ?_
  refine own_bk (S' := (T42.setTop (mkF m 54 #[rv a, rv b, iv (0 : Int32), iv (2 : Int32), .val .null, rv r_] [(.ref r_), (.ref a)]))) (fun t_ kont => XS.aload X44.here hx rfl (hb hby d12_52) rfl rfl kont) ?_
  obtain ⟨T54, h55, X56, e57, W58, st59⟩ := putF X44 hx hZ hown (host := "") (Or.inl (hw _ (List.mem_of_getElem? (i := 112) rfl))) Via.refl e45 F50 E49 (Or.inr ⟨(hw _ (List.mem_of_getElem? (i := 108) rfl)), rfl, hnm⟩) (hw _ (List.mem_of_getElem? (i := 95) rfl)) (ty := (.array .byte)) (by decide +kernel) rfl rfl (g := (mkF m 54 #[rv a, rv b, iv (0 : Int32), iv (2 : Int32), .val .null, rv r_] [(.ref r_), (.ref a)])) rfl rfl (hb hby d12_54)
  have N60 := Fr.snoc X56 N48 ag
  have E61 := (E49.wr W58)
  have F62 := (F50.same W58)
  have F63 := (F51.other W58 (Or.inr (slot_ne (Or.inr (hw _ (List.mem_of_getElem? (i := 109) rfl))) (Or.inr (hw _ (List.mem_of_getElem? (i := 108) rfl))) (by decide) (show parseFieldDescriptor "B" = some .byte from by decide +kernel) (show parseFieldDescriptor "[B" = some (.array .byte) from by decide +kernel))))
  have Z64 := Nat.le_trans Z52 (Keep.of_wr W58).1
  have O65 := O53.wr W58 ag
  refine own_bk (S' := (T54.setTop (mkF m 57 #[rv a, rv b, iv (0 : Int32), iv (2 : Int32), .val .null, rv r_] []))) st59 ?_
  exact own_retV X56 hx hlk Bd.returns (hb hby d12_57) (by rw [e57]; exact ⟨rfl, N60, O65, Z64, E61⟩) (by decide) (by decide)
theorem ef_rmI422 (m : MethodId) (x0 : Addr) (x1 : Addr) (x2 : Int32) (x3 : Int32) : entryFrame m #[(.ref x0), (.ref x1), (.int x2), (.int x3), .null] 6 = mkF m 0 #[.val (.ref x0), .val (.ref x1), .val (.int x2), .val (.int x3), .val .null, .unset] [] := by first | (simp [entryFrame, mkF, argsToLocals, Value.category, maxLocals]; done) | rfl
def Q_rmI422 (Z : State) (a b : Addr) (kb : ClassId) (q0 q1 cz : Int32) (h0 : Heap) (n0 : Nat) (v : Option Value) (h : Heap) (L : List Loc) : Prop := v = none ∧ Fr n0 L ∧ Old Z n0 h ∧ n0 ≤ h.size ∧ Exa Z h a "java/lang/String"
set_option maxRecDepth 65536 in
set_option maxHeartbeats 40000000 in
theorem rmI422 (l : Launch) (Z : State) (a0 : Array Value) (hw : ∀ d ∈ tables_1, d.before a0 Z = true) (ws : List Jvm.Cond) (a b : Addr) (kb : ClassId) (q0 q1 cz : Int32) (h0 : Heap) (n0 : Nat) (Z0 : n0 ≤ h0.size) (O : Old Z n0 h0) (SU : own_St Z cz) (VB : Arv Z h0 b kb .char (2 : Int32) [(.int q0), (.int q1)] (.int (0 : Int32))) (E : Exa Z h0 a "java/lang/String") (ag : n0 ≤ a) (F0 : Fld Z h0 a "java/lang/String" "value" "[B" .null) (F1 : Fld Z h0 a "java/lang/String" "coder" "B" (.int 0)) (lq0 : ¬ q0 < 0) (uq0 : ¬ (65535 : Int32) < q0) (lq1 : ¬ q1 < 0) (uq1 : ¬ (65535 : Int32) < q1) (gq0 : ¬ (255 : Int32) < q0) (gq1 : ¬ (255 : Int32) < q1) :
    MetFree l (⟨"java/lang/String", "<init>", "([CIILjava/lang/Void;)V"⟩ : MethodName) (head1 (Jvm.Cond.code (⟨"java/lang/String", "<init>", "([CIILjava/lang/Void;)V"⟩ : MethodName) jdk_42_method_149_code 6 none :: ws) ({ frames := 4, cells := 2, slots := 9, locals := 90 } : Room)) (fun as_ U_ => as_ = #[(.ref a), (.ref b), (.int (0 : Int32)), (.int (2 : Int32)), .null] ∧ Z.Warmed39 U_.vm ∧ U_.heap = h0) (fun _ _ _ _ _ => True) (fun _ U_ o_ U2_ => ∃ v_ L_, o_ = .returned v_ ∧ (Q_rmI422 Z a b kb q0 q1 cz h0 n0) v_ U2_.heap L_ ∧ FrameEnd U_ o_ U2_ L_ ({ frames := 4, cells := 2, slots := 9, locals := 90 } : Room).cells ({ frames := 4, cells := 2, slots := 9, locals := 90 } : Room).slots) := by
  refine MetFree.of_bodySF (plainFor_of_name (by first | (simp [plainName, overriddenIn]; done) | decide +kernel : plainName "java/lang/String" = true)) hisR ?_
  intro p e s m args below meth c s₁ Bd hml0 hP hK
  obtain ⟨rfl, hZ, hh⟩ := hP
  have hx := Bd.exec
  have hby := Bd.bytes
  have hlk := Bd.notSynchronized
  have hml : c.maxLocals = 6 := hml0
  have hown : s.vm.findClass "java/lang/String" = some m.cls := findClass_of_methodNamed Bd.named
  have hnm := (name_of_methodNamed Bd.named Bd.method).1
  have X0 : Stand p l e ({ frames := 4, cells := 2, slots := 9, locals := 90 } : Room) s m #[(.ref a), (.ref b), (.int (0 : Int32)), (.int (2 : Int32)), .null] below meth c s₁ [] 0 0 := Stand.of_body Bd
  have e0 : s₁.heap = h0 := by rw [← hh, Bd.state]; rfl
  have N0 := Fr.nil n0
  show own_Go p e below (own_R s below (Q_rmI422 Z a b kb q0 q1 cz h0 n0) ({ frames := 4, cells := 2, slots := 9, locals := 90 } : Room).cells ({ frames := 4, cells := 2, slots := 9, locals := 90 } : Room).slots) (s₁.setTop (entryFrame m #[(.ref a), (.ref b), (.int (0 : Int32)), (.int (2 : Int32)), .null] 6))
  refine own_bk (S' := (s₁.setTop (mkF m 0 #[rv a, rv b, iv (0 : Int32), iv (2 : Int32), .val .null, .unset] []))) (fun t_ kont => castTop (ef_rmI422 m (a) (b) ((0 : Int32)) ((2 : Int32))) kont) ?_
  refine own_bk (S' := (s₁.setTop (mkF m 1 #[rv a, rv b, iv (0 : Int32), iv (2 : Int32), .val .null, .unset] [(.ref a)]))) (fun t_ kont => XS.aloadN X0.here hx rfl (hb hby d12_0) rfl rfl kont) ?_
  obtain ⟨T1, X2, e3, st4⟩ := initO X0 hx hZ hown (hw _ (List.mem_of_getElem? (i := 105) rfl)) (hw _ (List.mem_of_getElem? (i := 24) rfl)) (hw _ (List.mem_of_getElem? (i := 25) rfl)) e0 (g := (mkF m 1 #[rv a, rv b, iv (0 : Int32), iv (2 : Int32), .val .null, .unset] [(.ref a)])) rfl (by rw [hml]; rfl) rfl (hb hby d12_1) (by decide) (W := 0) (by show 2 * 0 + _ ≤ _; exact Nat.le_of_eq rfl) (by decide)
  refine own_bk (S' := (T1.setTop (mkF m 4 #[rv a, rv b, iv (0 : Int32), iv (2 : Int32), .val .null, .unset] []))) st4 ?_
  refine own_bk (S' := (T1.setTop (mkF m 5 #[rv a, rv b, iv (0 : Int32), iv (2 : Int32), .val .null, .unset] [(.int (2 : Int32))]))) (fun t_ kont => XS.iloadN X2.here hx rfl (hb hby d12_4) rfl kont) ?_
  refine own_bk (S' := (T1.setTop (mkF m 27 #[rv a, rv b, iv (0 : Int32), iv (2 : Int32), .val .null, .unset] []))) (fun t_ kont => XS.ifYes X2.here hx rfl (pc0 := 5) (pc' := 27) rfl (hb hby d12_5) rfl ((if0 _ _).trans (feq (by decide : ¬ ((2 : Int32)) = ((0 : Int32)))).2) (by decide) (by decide) kont) ?_
  obtain ⟨T5, X6, e7, st8⟩ := getS2 X2 hx hZ hown (host := "") (Or.inl (hw _ (List.mem_of_getElem? (i := 119) rfl))) Via.refl e3 (SU.1.ext O.2) (g := (mkF m 27 #[rv a, rv b, iv (0 : Int32), iv (2 : Int32), .val .null, .unset] [])) rfl (hb hby d12_27)
  refine own_bk (S' := (T5.setTop (mkF m 30 #[rv a, rv b, iv (0 : Int32), iv (2 : Int32), .val .null, .unset] [(.int cz)]))) st8 ?_
  refine own_bk (S' := (T5.setTop (mkF m 33 #[rv a, rv b, iv (0 : Int32), iv (2 : Int32), .val .null, .unset] []))) (fun t_ kont => XS.ifNo X6.here hx rfl (hb hby d12_30) rfl ((if0 _ _).trans (feq (SU.2.1)).1) kont) ?_
  refine own_bk (S' := (T5.setTop (mkF m 34 #[rv a, rv b, iv (0 : Int32), iv (2 : Int32), .val .null, .unset] [(.ref b)]))) (fun t_ kont => XS.aloadN X6.here hx rfl (hb hby d12_33) rfl rfl kont) ?_
  refine own_bk (S' := (T5.setTop (mkF m 35 #[rv a, rv b, iv (0 : Int32), iv (2 : Int32), .val .null, .unset] [(.int (0 : Int32)), (.ref b)]))) (fun t_ kont => XS.iloadN X6.here hx rfl (hb hby d12_34) rfl kont) ?_
  refine own_bk (S' := (T5.setTop (mkF m 36 #[rv a, rv b, iv (0 : Int32), iv (2 : Int32), .val .null, .unset] [(.int (2 : Int32)), (.int (0 : Int32)), (.ref b)]))) (fun t_ kont => XS.iloadN X6.here hx rfl (hb hby d12_35) rfl kont) ?_
  obtain ⟨_, _, ⟨T9, L10, k11, n12⟩, -, X13, ⟨Lc14, hQ15, l16, y17, z18⟩, st19⟩ := Jvm.LawKit.callS X6 hx (y := (⟨"java/lang/StringUTF16", "compress", "([CII)[B"⟩ : MethodName)) hown (mvT hZ (hw _ (List.mem_of_getElem? (i := 120) rfl))) (mvT hZ (hw _ (List.mem_of_getElem? (i := 121) rfl))) (mvT hZ (hw _ (List.mem_of_getElem? (i := 122) rfl))) (mvT hZ (hw _ (List.mem_of_getElem? (i := 123) rfl))) (by decide) (backOf (W := 0) (rmC322 l Z a0 hw [] b kb q0 q1 cz h0 n0 Z0 O SU VB lq0 uq0 lq1 uq1 gq0 gq1) hZ (hw _ (List.mem_of_getElem? (i := 123) rfl)) (hw _ (List.mem_of_getElem? (i := 122) rfl)) (by decide) (by decide)) (g := (mkF m 36 #[rv a, rv b, iv (0 : Int32), iv (2 : Int32), .val .null, .unset] [(.int (2 : Int32)), (.int (0 : Int32)), (.ref b)])) rfl (by rw [hml]; rfl) (argsL := [(.ref b), (.int (0 : Int32)), (.int (2 : Int32))]) (rest := []) (lenOf (by decide +kernel : parseMethodDescriptor "([CII)[B" = some ⟨[(.array .char), .int, .int], some (.array .byte)⟩) rfl) rfl (by show 2 * 0 + _ ≤ _; exact Nat.le_of_eq rfl) (hb hby d12_36) (fun _ _ => ⟨rfl, e7, (by decide : 0 + 2 ≤ _), (by decide : 0 + 9 ≤ _)⟩)
  dsimp only [Pt.U, Pt.locs, Pt.cells, Pt.slots] at X13 l16 y17 z18 st19 hQ15
  subst l16 y17 z18
  obtain ⟨N20, O_, K_, r_, kr_, vs_, rfl, Vr_⟩ := hQ15
  have N22 := Fr.app N0 N20
  have E23 := (E.keep K_)
  have F24 := (F0.keep K_ nin0)
  have F25 := (F1.keep K_ nin0)
  have Z26 := Nat.le_trans Z0 K_.1
  have O27 := O.keep K_ all0
  refine own_bk (S' := (T9.setTop (mkF m 39 #[rv a, rv b, iv (0 : Int32), iv (2 : Int32), .val .null, .unset] [(.ref r_)]))) st19 ?_
  refine own_bk (S' := (T9.setTop (mkF m 41 #[rv a, rv b, iv (0 : Int32), iv (2 : Int32), .val .null, rv r_] []))) (fun t_ kont => XS.astore X13.here hx rfl (hb hby d12_39) rfl rfl (l' := #[rv a, rv b, iv (0 : Int32), iv (2 : Int32), .val .null, rv r_]) rfl kont) ?_
  refine own_bk (S' := (T9.setTop (mkF m 42 #[rv a, rv b, iv (0 : Int32), iv (2 : Int32), .val .null, rv r_] [(.ref a)]))) (fun t_ kont => XS.aloadN X13.here hx rfl (hb hby d12_41) rfl rfl kont) ?_
  refine own_bk (S' := (T9.setTop (mkF m 44 #[rv a, rv b, iv (0 : Int32), iv (2 : Int32), .val .null, rv r_] [(.ref r_), (.ref a)]))) (fun t_ kont => XS.aload X13.here hx rfl (hb hby d12_42) rfl rfl kont) ?_
  refine own_bk (S' := (T9.setTop (mkF m 45 #[rv a, rv b, iv (0 : Int32), iv (2 : Int32), .val .null, rv r_] [(.int (2 : Int32)), (.ref r_), (.ref a)]))) (fun t_ kont => XS.iloadN X13.here hx rfl (hb hby d12_44) rfl kont) ?_
  obtain ⟨_, _, ⟨T28, L29, k30, n31⟩, -, X32, ⟨Lc33, hQ34, l35, y36, z37⟩, st38⟩ := Jvm.LawKit.callS X13 hx (y := (⟨"java/lang/StringUTF16", "coderFromArrayLen", "([BI)B"⟩ : MethodName)) hown (mvT hZ (hw _ (List.mem_of_getElem? (i := 127) rfl))) (mvT hZ (hw _ (List.mem_of_getElem? (i := 128) rfl))) (mvT hZ (hw _ (List.mem_of_getElem? (i := 122) rfl))) (mvT hZ (hw _ (List.mem_of_getElem? (i := 129) rfl))) (by decide) (backOf (W := 1) (rmCL22 l Z a0 hw [] r_ kr_ vs_ T9.heap n0 Z26 Vr_) hZ (hw _ (List.mem_of_getElem? (i := 129) rfl)) (hw _ (List.mem_of_getElem? (i := 122) rfl)) (by decide) (by decide)) (g := (mkF m 45 #[rv a, rv b, iv (0 : Int32), iv (2 : Int32), .val .null, rv r_] [(.int (2 : Int32)), (.ref r_), (.ref a)])) rfl (by rw [hml]; rfl) (argsL := [(.ref r_), (.int (2 : Int32))]) (rest := [(.ref a)]) (lenOf (by decide +kernel : parseMethodDescriptor "([BI)B" = some ⟨[(.array .byte), .int], some .byte⟩) rfl) rfl (by show 2 * 0 + _ ≤ _; exact Nat.le_of_eq rfl) (hb hby d12_45) (fun _ _ => ⟨rfl, rfl, (by decide : 2 + 0 ≤ _), (by decide : 9 + 0 ≤ _)⟩)
  dsimp only [Pt.U, Pt.locs, Pt.cells, Pt.slots] at X32 l35 y36 z37 st38 hQ34
  subst l35 y36 z37
  obtain ⟨rfl, N39, e40⟩ := hQ34
  have N41 := Fr.app N22 N39
  refine own_bk (S' := (T28.setTop (mkF m 48 #[rv a, rv b, iv (0 : Int32), iv (2 : Int32), .val .null, rv r_] [(.int (0 : Int32)), (.ref a)]))) st38 ?_
  obtain ⟨T42, h43, X44, e45, W46, st47⟩ := putF X32 hx hZ hown (host := "") (Or.inl (hw _ (List.mem_of_getElem? (i := 113) rfl))) Via.refl e40 F25 E23 (Or.inr ⟨(hw _ (List.mem_of_getElem? (i := 109) rfl)), rfl, hnm⟩) (hw _ (List.mem_of_getElem? (i := 95) rfl)) (ty := .byte) (by decide +kernel) rfl rfl (g := (mkF m 48 #[rv a, rv b, iv (0 : Int32), iv (2 : Int32), .val .null, rv r_] [(.int (0 : Int32)), (.ref a)])) rfl rfl (hb hby d12_48)
  have N48 := Fr.snoc X44 N41 ag
  have E49 := (E23.wr W46)
  have F50 := (F24.other W46 (Or.inr (slot_ne (Or.inr (hw _ (List.mem_of_getElem? (i := 108) rfl))) (Or.inr (hw _ (List.mem_of_getElem? (i := 109) rfl))) (by decide) (show parseFieldDescriptor "[B" = some (.array .byte) from by decide +kernel) (show parseFieldDescriptor "B" = some .byte from by decide +kernel))))
  have F51 := (F25.same W46)
  have Z52 := Nat.le_trans Z26 (Keep.of_wr W46).1
  have O53 := O_.wr W46 ag
  refine own_bk (S' := (T42.setTop (mkF m 51 #[rv a, rv b, iv (0 : Int32), iv (2 : Int32), .val .null, rv r_] []))) st47 ?_
  refine own_bk (S' := (T42.setTop (mkF m 52 #[rv a, rv b, iv (0 : Int32), iv (2 : Int32), .val .null, rv r_] [(.ref a)]))) (fun t_ kont => XS.aloadN X44.here hx rfl (hb hby d12_51) rfl rfl kont) ?_
  refine own_bk (S' := (T42.setTop (mkF m 54 #[rv a, rv b, iv (0 : Int32), iv (2 : Int32), .val .null, rv r_] [(.ref r_), (.ref a)]))) (fun t_ kont => XS.aload X44.here hx rfl (hb hby d12_52) rfl rfl kont) ?_
  obtain ⟨T54, h55, X56, e57, W58, st59⟩ := putF X44 hx hZ hown (host := "") (Or.inl (hw _ (List.mem_of_getElem? (i := 112) rfl))) Via.refl e45 F50 E49 (Or.inr ⟨(hw _ (List.mem_of_getElem? (i := 108) rfl)), rfl, hnm⟩) (hw _ (List.mem_of_getElem? (i := 95) rfl)) (ty := (.array .byte)) (by decide +kernel) rfl rfl (g := (mkF m 54 #[rv a, rv b, iv (0 : Int32), iv (2 : Int32), .val .null, rv r_] [(.ref r_), (.ref a)])) rfl rfl (hb hby d12_54)
  have N60 := Fr.snoc X56 N48 ag
  have E61 := (E49.wr W58)
  have F62 := (F50.same W58)
  have F63 := (F51.other W58 (Or.inr (slot_ne (Or.inr (hw _ (List.mem_of_getElem? (i := 109) rfl))) (Or.inr (hw _ (List.mem_of_getElem? (i := 108) rfl))) (by decide) (show parseFieldDescriptor "B" = some .byte from by decide +kernel) (show parseFieldDescriptor "[B" = some (.array .byte) from by decide +kernel))))
  have Z64 := Nat.le_trans Z52 (Keep.of_wr W58).1
  have O65 := O53.wr W58 ag
  refine own_bk (S' := (T54.setTop (mkF m 57 #[rv a, rv b, iv (0 : Int32), iv (2 : Int32), .val .null, rv r_] []))) st59 ?_
  exact own_retV X56 hx hlk Bd.returns (hb hby d12_57) (by rw [e57]; exact ⟨rfl, N60, O65, Z64, E61⟩) (by decide) (by decide)
theorem ef_rmI430 (m : MethodId) (x0 : Addr) (x1 : Addr) (x2 : Int32) (x3 : Int32) : entryFrame m #[(.ref x0), (.ref x1), (.int x2), (.int x3), .null] 6 = mkF m 0 #[.val (.ref x0), .val (.ref x1), .val (.int x2), .val (.int x3), .val .null, .unset] [] := by first | (simp [entryFrame, mkF, argsToLocals, Value.category, maxLocals]; done) | rfl
def Q_rmI430 (Z : State) (a b : Addr) (kb : ClassId) (q0 q1 q2 cz : Int32) (h0 : Heap) (n0 : Nat) (v : Option Value) (h : Heap) (L : List Loc) : Prop := v = none ∧ Fr n0 L ∧ Old Z n0 h ∧ n0 ≤ h.size ∧ Exa Z h a "java/lang/String"
set_option maxRecDepth 65536 in
set_option maxHeartbeats 40000000 in
theorem rmI430 (l : Launch) (Z : State) (a0 : Array Value) (hw : ∀ d ∈ tables_1, d.before a0 Z = true) (ws : List Jvm.Cond) (a b : Addr) (kb : ClassId) (q0 q1 q2 cz : Int32) (h0 : Heap) (n0 : Nat) (Z0 : n0 ≤ h0.size) (O : Old Z n0 h0) (SU : own_St Z cz) (VB : Arv Z h0 b kb .char (3 : Int32) [(.int q0), (.int q1), (.int q2)] (.int (0 : Int32))) (E : Exa Z h0 a "java/lang/String") (ag : n0 ≤ a) (F0 : Fld Z h0 a "java/lang/String" "value" "[B" .null) (F1 : Fld Z h0 a "java/lang/String" "coder" "B" (.int 0)) (lq0 : ¬ q0 < 0) (uq0 : ¬ (65535 : Int32) < q0) (lq1 : ¬ q1 < 0) (uq1 : ¬ (65535 : Int32) < q1) (lq2 : ¬ q2 < 0) (uq2 : ¬ (65535 : Int32) < q2)  (gq0 : (255 : Int32) < q0) :
    MetFree l (⟨"java/lang/String", "<init>", "([CIILjava/lang/Void;)V"⟩ : MethodName) (head1 (Jvm.Cond.code (⟨"java/lang/String", "<init>", "([CIILjava/lang/Void;)V"⟩ : MethodName) jdk_42_method_149_code 6 none :: ws) ({ frames := 4, cells := 2, slots := 9, locals := 90 } : Room)) (fun as_ U_ => as_ = #[(.ref a), (.ref b), (.int (0 : Int32)), (.int (3 : Int32)), .null] ∧ Z.Warmed39 U_.vm ∧ U_.heap = h0) (fun _ _ _ _ _ => True) (fun _ U_ o_ U2_ => ∃ v_ L_, o_ = .returned v_ ∧ (Q_rmI430 Z a b kb q0 q1 q2 cz h0 n0) v_ U2_.heap L_ ∧ FrameEnd U_ o_ U2_ L_ ({ frames := 4, cells := 2, slots := 9, locals := 90 } : Room).cells ({ frames := 4, cells := 2, slots := 9, locals := 90 } : Room).slots) := by
  refine MetFree.of_bodySF (plainFor_of_name (by first | (simp [plainName, overriddenIn]; done) | decide +kernel : plainName "java/lang/String" = true)) hisR ?_
  intro p e s m args below meth c s₁ Bd hml0 hP hK
  obtain ⟨rfl, hZ, hh⟩ := hP
  have hx := Bd.exec
  have hby := Bd.bytes
  have hlk := Bd.notSynchronized
  have hml : c.maxLocals = 6 := hml0
  have hown : s.vm.findClass "java/lang/String" = some m.cls := findClass_of_methodNamed Bd.named
  have hnm := (name_of_methodNamed Bd.named Bd.method).1
  have X0 : Stand p l e ({ frames := 4, cells := 2, slots := 9, locals := 90 } : Room) s m #[(.ref a), (.ref b), (.int (0 : Int32)), (.int (3 : Int32)), .null] below meth c s₁ [] 0 0 := Stand.of_body Bd
  have e0 : s₁.heap = h0 := by rw [← hh, Bd.state]; rfl
  have N0 := Fr.nil n0
  show own_Go p e below (own_R s below (Q_rmI430 Z a b kb q0 q1 q2 cz h0 n0) ({ frames := 4, cells := 2, slots := 9, locals := 90 } : Room).cells ({ frames := 4, cells := 2, slots := 9, locals := 90 } : Room).slots) (s₁.setTop (entryFrame m #[(.ref a), (.ref b), (.int (0 : Int32)), (.int (3 : Int32)), .null] 6))
  refine own_bk (S' := (s₁.setTop (mkF m 0 #[rv a, rv b, iv (0 : Int32), iv (3 : Int32), .val .null, .unset] []))) (fun t_ kont => castTop (ef_rmI430 m (a) (b) ((0 : Int32)) ((3 : Int32))) kont) ?_
  refine own_bk (S' := (s₁.setTop (mkF m 1 #[rv a, rv b, iv (0 : Int32), iv (3 : Int32), .val .null, .unset] [(.ref a)]))) (fun t_ kont => XS.aloadN X0.here hx rfl (hb hby d12_0) rfl rfl kont) ?_
  obtain ⟨T1, X2, e3, st4⟩ := initO X0 hx hZ hown (hw _ (List.mem_of_getElem? (i := 105) rfl)) (hw _ (List.mem_of_getElem? (i := 24) rfl)) (hw _ (List.mem_of_getElem? (i := 25) rfl)) e0 (g := (mkF m 1 #[rv a, rv b, iv (0 : Int32), iv (3 : Int32), .val .null, .unset] [(.ref a)])) rfl (by rw [hml]; rfl) rfl (hb hby d12_1) (by decide) (W := 0) (by show 2 * 0 + _ ≤ _; exact Nat.le_of_eq rfl) (by decide)
  refine own_bk (S' := (T1.setTop (mkF m 4 #[rv a, rv b, iv (0 : Int32), iv (3 : Int32), .val .null, .unset] []))) st4 ?_
  refine own_bk (S' := (T1.setTop (mkF m 5 #[rv a, rv b, iv (0 : Int32), iv (3 : Int32), .val .null, .unset] [(.int (3 : Int32))]))) (fun t_ kont => XS.iloadN X2.here hx rfl (hb hby d12_4) rfl kont) ?_
  refine own_bk (S' := (T1.setTop (mkF m 27 #[rv a, rv b, iv (0 : Int32), iv (3 : Int32), .val .null, .unset] []))) (fun t_ kont => XS.ifYes X2.here hx rfl (pc0 := 5) (pc' := 27) rfl (hb hby d12_5) rfl ((if0 _ _).trans (feq (by decide : ¬ ((3 : Int32)) = ((0 : Int32)))).2) (by decide) (by decide) kont) ?_
  obtain ⟨T5, X6, e7, st8⟩ := getS2 X2 hx hZ hown (host := "") (Or.inl (hw _ (List.mem_of_getElem? (i := 119) rfl))) Via.refl e3 (SU.1.ext O.2) (g := (mkF m 27 #[rv a, rv b, iv (0 : Int32), iv (3 : Int32), .val .null, .unset] [])) rfl (hb hby d12_27)
  refine own_bk (S' := (T5.setTop (mkF m 30 #[rv a, rv b, iv (0 : Int32), iv (3 : Int32), .val .null, .unset] [(.int cz)]))) st8 ?_
  refine own_bk (S' := (T5.setTop (mkF m 33 #[rv a, rv b, iv (0 : Int32), iv (3 : Int32), .val .null, .unset] []))) (fun t_ kont => XS.ifNo X6.here hx rfl (hb hby d12_30) rfl ((if0 _ _).trans (feq (SU.2.1)).1) kont) ?_
  refine own_bk (S' := (T5.setTop (mkF m 34 #[rv a, rv b, iv (0 : Int32), iv (3 : Int32), .val .null, .unset] [(.ref b)]))) (fun t_ kont => XS.aloadN X6.here hx rfl (hb hby d12_33) rfl rfl kont) ?_
  refine own_bk (S' := (T5.setTop (mkF m 35 #[rv a, rv b, iv (0 : Int32), iv (3 : Int32), .val .null, .unset] [(.int (0 : Int32)), (.ref b)]))) (fun t_ kont => XS.iloadN X6.here hx rfl (hb hby d12_34) rfl kont) ?_
  refine own_bk (S' := (T5.setTop (mkF m 36 #[rv a, rv b, iv (0 : Int32), iv (3 : Int32), .val .null, .unset] [(.int (3 : Int32)), (.int (0 : Int32)), (.ref b)]))) (fun t_ kont => XS.iloadN X6.here hx rfl (hb hby d12_35) rfl kont) ?_
  obtain ⟨_, _, ⟨T9, L10, k11, n12⟩, -, X13, ⟨Lc14, hQ15, l16, y17, z18⟩, st19⟩ := Jvm.LawKit.callS X6 hx (y := (⟨"java/lang/StringUTF16", "compress", "([CII)[B"⟩ : MethodName)) hown (mvT hZ (hw _ (List.mem_of_getElem? (i := 120) rfl))) (mvT hZ (hw _ (List.mem_of_getElem? (i := 121) rfl))) (mvT hZ (hw _ (List.mem_of_getElem? (i := 122) rfl))) (mvT hZ (hw _ (List.mem_of_getElem? (i := 123) rfl))) (by decide) (backOf (W := 0) (rmC330 l Z a0 hw [] b kb q0 q1 q2 cz h0 n0 Z0 O SU VB lq0 uq0 lq1 uq1 lq2 uq2 gq0) hZ (hw _ (List.mem_of_getElem? (i := 123) rfl)) (hw _ (List.mem_of_getElem? (i := 122) rfl)) (by decide) (by decide)) (g := (mkF m 36 #[rv a, rv b, iv (0 : Int32), iv (3 : Int32), .val .null, .unset] [(.int (3 : Int32)), (.int (0 : Int32)), (.ref b)])) rfl (by rw [hml]; rfl) (argsL := [(.ref b), (.int (0 : Int32)), (.int (3 : Int32))]) (rest := []) (lenOf (by decide +kernel : parseMethodDescriptor "([CII)[B" = some ⟨[(.array .char), .int, .int], some (.array .byte)⟩) rfl) rfl (by show 2 * 0 + _ ≤ _; exact Nat.le_of_eq rfl) (hb hby d12_36) (fun _ _ => ⟨rfl, e7, (by decide : 0 + 2 ≤ _), (by decide : 0 + 9 ≤ _)⟩)
  dsimp only [Pt.U, Pt.locs, Pt.cells, Pt.slots] at X13 l16 y17 z18 st19 hQ15
  subst l16 y17 z18
  obtain ⟨N20, O_, K_, r_, kr_, vs_, rfl, Vr_⟩ := hQ15
  have N22 := Fr.app N0 N20
  have E23 := (E.keep K_)
  have F24 := (F0.keep K_ nin0)
  have F25 := (F1.keep K_ nin0)
  have Z26 := Nat.le_trans Z0 K_.1
  have O27 := O.keep K_ all0
  refine own_bk (S' := (T9.setTop (mkF m 39 #[rv a, rv b, iv (0 : Int32), iv (3 : Int32), .val .null, .unset] [(.ref r_)]))) st19 ?_
  refine own_bk (S' := (T9.setTop (mkF m 41 #[rv a, rv b, iv (0 : Int32), iv (3 : Int32), .val .null, rv r_] []))) (fun t_ kont => XS.astore X13.here hx rfl (hb hby d12_39) rfl rfl (l' := #[rv a, rv b, iv (0 : Int32), iv (3 : Int32), .val .null, rv r_]) rfl kont) ?_
  refine own_bk (S' := (T9.setTop (mkF m 42 #[rv a, rv b, iv (0 : Int32), iv (3 : Int32), .val .null, rv r_] [(.ref a)]))) (fun t_ kont => XS.aloadN X13.here hx rfl (hb hby d12_41) rfl rfl kont) ?_
  refine own_bk (S' := (T9.setTop (mkF m 44 #[rv a, rv b, iv (0 : Int32), iv (3 : Int32), .val .null, rv r_] [(.ref r_), (.ref a)]))) (fun t_ kont => XS.aload X13.here hx rfl (hb hby d12_42) rfl rfl kont) ?_
  refine own_bk (S' := (T9.setTop (mkF m 45 #[rv a, rv b, iv (0 : Int32), iv (3 : Int32), .val .null, rv r_] [(.int (3 : Int32)), (.ref r_), (.ref a)]))) (fun t_ kont => XS.iloadN X13.here hx rfl (hb hby d12_44) rfl kont) ?_
  obtain ⟨_, _, ⟨T28, L29, k30, n31⟩, -, X32, ⟨Lc33, hQ34, l35, y36, z37⟩, st38⟩ := Jvm.LawKit.callS X13 hx (y := (⟨"java/lang/StringUTF16", "coderFromArrayLen", "([BI)B"⟩ : MethodName)) hown (mvT hZ (hw _ (List.mem_of_getElem? (i := 127) rfl))) (mvT hZ (hw _ (List.mem_of_getElem? (i := 128) rfl))) (mvT hZ (hw _ (List.mem_of_getElem? (i := 122) rfl))) (mvT hZ (hw _ (List.mem_of_getElem? (i := 129) rfl))) (by decide) (backOf (W := 1) (rmCL36 l Z a0 hw [] r_ kr_ vs_ T9.heap n0 Z26 Vr_) hZ (hw _ (List.mem_of_getElem? (i := 129) rfl)) (hw _ (List.mem_of_getElem? (i := 122) rfl)) (by decide) (by decide)) (g := (mkF m 45 #[rv a, rv b, iv (0 : Int32), iv (3 : Int32), .val .null, rv r_] [(.int (3 : Int32)), (.ref r_), (.ref a)])) rfl (by rw [hml]; rfl) (argsL := [(.ref r_), (.int (3 : Int32))]) (rest := [(.ref a)]) (lenOf (by decide +kernel : parseMethodDescriptor "([BI)B" = some ⟨[(.array .byte), .int], some .byte⟩) rfl) rfl (by show 2 * 0 + _ ≤ _; exact Nat.le_of_eq rfl) (hb hby d12_45) (fun _ _ => ⟨rfl, rfl, (by decide : 2 + 0 ≤ _), (by decide : 9 + 0 ≤ _)⟩)
  dsimp only [Pt.U, Pt.locs, Pt.cells, Pt.slots] at X32 l35 y36 z37 st38 hQ34
  subst l35 y36 z37
  obtain ⟨rfl, N39, e40⟩ := hQ34
  have N41 := Fr.app N22 N39
  refine own_bk (S' := (T28.setTop (mkF m 48 #[rv a, rv b, iv (0 : Int32), iv (3 : Int32), .val .null, rv r_] [(.int (1 : Int32)), (.ref a)]))) st38 ?_
  obtain ⟨T42, h43, X44, e45, W46, st47⟩ := putF X32 hx hZ hown (host := "") (Or.inl (hw _ (List.mem_of_getElem? (i := 113) rfl))) Via.refl e40 F25 E23 (Or.inr ⟨(hw _ (List.mem_of_getElem? (i := 109) rfl)), rfl, hnm⟩) (hw _ (List.mem_of_getElem? (i := 95) rfl)) (ty := .byte) (by decide +kernel) rfl rfl (g := (mkF m 48 #[rv a, rv b, iv (0 : Int32), iv (3 : Int32), .val .null, rv r_] [(.int (1 : Int32)), (.ref a)])) rfl rfl (hb hby d12_48)
  have N48 := Fr.snoc X44 N41 ag
  have E49 := (E23.wr W46)
  have F50 := (F24.other W46 (Or.inr (slot_ne (Or.inr (hw _ (List.mem_of_getElem? (i := 108) rfl))) (Or.inr (hw _ (List.mem_of_getElem? (i := 109) rfl))) (by decide) (show parseFieldDescriptor "[B" = some (.array .byte) from by decide +kernel) (show parseFieldDescriptor "B" = some .byte from by decide +kernel))))
  have F51 := (F25.same W46)
  have Z52 := Nat.le_trans Z26 (Keep.of_wr W46).1
  have O53 := O_.wr W46 ag
  refine own_bk (S' := (T42.setTop (mkF m 51 #[rv a, rv b, iv (0 : Int32), iv (3 : Int32), .val .null, rv r_] []))) st47 ?_
  refine own_bk (S' := (T42.setTop (mkF m 52 #[rv a, rv b, iv (0 : Int32), iv (3 : Int32), .val .null, rv r_] [(.ref a)]))) (fun t_ kont => XS.aloadN X44.here hx rfl (hb hby d12_51) rfl rfl kont) ?_
  refine own_bk (S' := (T42.setTop (mkF m 54 #[rv a, rv b, iv (0 : Int32), iv (3 : Int32), .val .null, rv r_] [(.ref r_), (.ref a)]))) (fun t_ kont => XS.aload X44.here hx rfl (hb hby d12_52) rfl rfl kont) ?_
  obtain ⟨T54, h55, X56, e57, W58, st59⟩ := putF X44 hx hZ hown (host := "") (Or.inl (hw _ (List.mem_of_getElem? (i := 112) rfl))) Via.refl e45 F50 E49 (Or.inr ⟨(hw _ (List.mem_of_getElem? (i := 108) rfl)), rfl, hnm⟩) (hw _ (List.mem_of_getElem? (i := 95) rfl)) (ty := (.array .byte)) (by decide +kernel) rfl rfl (g := (mkF m 54 #[rv a, rv b, iv (0 : Int32), iv (3 : Int32), .val .null, rv r_] [(.ref r_), (.ref a)])) rfl rfl (hb hby d12_54)
  have N60 := Fr.snoc X56 N48 ag
  have E61 := (E49.wr W58)
  have F62 := (F50.same W58)
  have F63 := (F51.other W58 (Or.inr (slot_ne (Or.inr (hw _ (List.mem_of_getElem? (i := 109) rfl))) (Or.inr (hw _ (List.mem_of_getElem? (i := 108) rfl))) (by decide) (show parseFieldDescriptor "B" = some .byte from by decide +kernel) (show parseFieldDescriptor "[B" = some (.array .byte) from by decide +kernel))))
  have Z64 := Nat.le_trans Z52 (Keep.of_wr W58).1
  have O65 := O53.wr W58 ag
  refine own_bk (S' := (T54.setTop (mkF m 57 #[rv a, rv b, iv (0 : Int32), iv (3 : Int32), .val .null, rv r_] []))) st59 ?_
  exact own_retV X56 hx hlk Bd.returns (hb hby d12_57) (by rw [e57]; exact ⟨rfl, N60, O65, Z64, E61⟩) (by decide) (by decide)
theorem ef_rmI431 (m : MethodId) (x0 : Addr) (x1 : Addr) (x2 : Int32) (x3 : Int32) : entryFrame m #[(.ref x0), (.ref x1), (.int x2), (.int x3), .null] 6 = mkF m 0 #[.val (.ref x0), .val (.ref x1), .val (.int x2), .val (.int x3), .val .null, .unset] [] := by first | (simp [entryFrame, mkF, argsToLocals, Value.category, maxLocals]; done) | rfl
def Q_rmI431 (Z : State) (a b : Addr) (kb : ClassId) (q0 q1 q2 cz : Int32) (h0 : Heap) (n0 : Nat) (v : Option Value) (h : Heap) (L : List Loc) : Prop := v = none ∧ Fr n0 L ∧ Old Z n0 h ∧ n0 ≤ h.size ∧ Exa Z h a "java/lang/String"
set_option maxRecDepth 65536 in
set_option maxHeartbeats 40000000 in
theorem rmI431 (l : Launch) (Z : State) (a0 : Array Value) (hw : ∀ d ∈ tables_1, d.before a0 Z = true) (ws : List Jvm.Cond) (a b : Addr) (kb : ClassId) (q0 q1 q2 cz : Int32) (h0 : Heap) (n0 : Nat) (Z0 : n0 ≤ h0.size) (O : Old Z n0 h0) (SU : own_St Z cz) (VB : Arv Z h0 b kb .char (3 : Int32) [(.int q0), (.int q1), (.int q2)] (.int (0 : Int32))) (E : Exa Z h0 a "java/lang/String") (ag : n0 ≤ a) (F0 : Fld Z h0 a "java/lang/String" "value" "[B" .null) (F1 : Fld Z h0 a "java/lang/String" "coder" "B" (.int 0)) (lq0 : ¬ q0 < 0) (uq0 : ¬ (65535 : Int32) < q0) (lq1 : ¬ q1 < 0) (uq1 : ¬ (65535 : Int32) < q1) (lq2 : ¬ q2 < 0) (uq2 : ¬ (65535 : Int32) < q2) (gq0 : ¬ (255 : Int32) < q0) (gq1 : (255 : Int32) < q1) :
    MetFree l (⟨"java/lang/String", "<init>", "([CIILjava/lang/Void;)V"⟩ : MethodName) (head1 (Jvm.Cond.code (⟨"java/lang/String", "<init>", "([CIILjava/lang/Void;)V"⟩ : MethodName) jdk_42_method_149_code 6 none :: ws) ({ frames := 4, cells := 2, slots := 9, locals := 90 } : Room)) (fun as_ U_ => as_ = #[(.ref a), (.ref b), (.int (0 : Int32)), (.int (3 : Int32)), .null] ∧ Z.Warmed39 U_.vm ∧ U_.heap = h0) (fun _ _ _ _ _ => True) (fun _ U_ o_ U2_ => ∃ v_ L_, o_ = .returned v_ ∧ (Q_rmI431 Z a b kb q0 q1 q2 cz h0 n0) v_ U2_.heap L_ ∧ FrameEnd U_ o_ U2_ L_ ({ frames := 4, cells := 2, slots := 9, locals := 90 } : Room).cells ({ frames := 4, cells := 2, slots := 9, locals := 90 } : Room).slots) := by
  refine MetFree.of_bodySF (plainFor_of_name (by first | (simp [plainName, overriddenIn]; done) | decide +kernel : plainName "java/lang/String" = true)) hisR ?_
  intro p e s m args below meth c s₁ Bd hml0 hP hK
  obtain ⟨rfl, hZ, hh⟩ := hP
  have hx := Bd.exec
  have hby := Bd.bytes
  have hlk := Bd.notSynchronized
  have hml : c.maxLocals = 6 := hml0
  have hown : s.vm.findClass "java/lang/String" = some m.cls := findClass_of_methodNamed Bd.named
  have hnm := (name_of_methodNamed Bd.named Bd.method).1
  have X0 : Stand p l e ({ frames := 4, cells := 2, slots := 9, locals := 90 } : Room) s m #[(.ref a), (.ref b), (.int (0 : Int32)), (.int (3 : Int32)), .null] below meth c s₁ [] 0 0 := Stand.of_body Bd
  have e0 : s₁.heap = h0 := by rw [← hh, Bd.state]; rfl
  have N0 := Fr.nil n0
  show own_Go p e below (own_R s below (Q_rmI431 Z a b kb q0 q1 q2 cz h0 n0) ({ frames := 4, cells := 2, slots := 9, locals := 90 } : Room).cells ({ frames := 4, cells := 2, slots := 9, locals := 90 } : Room).slots) (s₁.setTop (entryFrame m #[(.ref a), (.ref b), (.int (0 : Int32)), (.int (3 : Int32)), .null] 6))
  refine own_bk (S' := (s₁.setTop (mkF m 0 #[rv a, rv b, iv (0 : Int32), iv (3 : Int32), .val .null, .unset] []))) (fun t_ kont => castTop (ef_rmI431 m (a) (b) ((0 : Int32)) ((3 : Int32))) kont) ?_
  refine own_bk (S' := (s₁.setTop (mkF m 1 #[rv a, rv b, iv (0 : Int32), iv (3 : Int32), .val .null, .unset] [(.ref a)]))) (fun t_ kont => XS.aloadN X0.here hx rfl (hb hby d12_0) rfl rfl kont) ?_
  obtain ⟨T1, X2, e3, st4⟩ := initO X0 hx hZ hown (hw _ (List.mem_of_getElem? (i := 105) rfl)) (hw _ (List.mem_of_getElem? (i := 24) rfl)) (hw _ (List.mem_of_getElem? (i := 25) rfl)) e0 (g := (mkF m 1 #[rv a, rv b, iv (0 : Int32), iv (3 : Int32), .val .null, .unset] [(.ref a)])) rfl (by rw [hml]; rfl) rfl (hb hby d12_1) (by decide) (W := 0) (by show 2 * 0 + _ ≤ _; exact Nat.le_of_eq rfl) (by decide)
  refine own_bk (S' := (T1.setTop (mkF m 4 #[rv a, rv b, iv (0 : Int32), iv (3 : Int32), .val .null, .unset] []))) st4 ?_
  refine own_bk (S' := (T1.setTop (mkF m 5 #[rv a, rv b, iv (0 : Int32), iv (3 : Int32), .val .null, .unset] [(.int (3 : Int32))]))) (fun t_ kont => XS.iloadN X2.here hx rfl (hb hby d12_4) rfl kont) ?_
  refine own_bk (S' := (T1.setTop (mkF m 27 #[rv a, rv b, iv (0 : Int32), iv (3 : Int32), .val .null, .unset] []))) (fun t_ kont => XS.ifYes X2.here hx rfl (pc0 := 5) (pc' := 27) rfl (hb hby d12_5) rfl ((if0 _ _).trans (feq (by decide : ¬ ((3 : Int32)) = ((0 : Int32)))).2) (by decide) (by decide) kont) ?_
  obtain ⟨T5, X6, e7, st8⟩ := getS2 X2 hx hZ hown (host := "") (Or.inl (hw _ (List.mem_of_getElem? (i := 119) rfl))) Via.refl e3 (SU.1.ext O.2) (g := (mkF m 27 #[rv a, rv b, iv (0 : Int32), iv (3 : Int32), .val .null, .unset] [])) rfl (hb hby d12_27)
  refine own_bk (S' := (T5.setTop (mkF m 30 #[rv a, rv b, iv (0 : Int32), iv (3 : Int32), .val .null, .unset] [(.int cz)]))) st8 ?_
  refine own_bk (S' := (T5.setTop (mkF m 33 #[rv a, rv b, iv (0 : Int32), iv (3 : Int32), .val .null, .unset] []))) (fun t_ kont => XS.ifNo X6.here hx rfl (hb hby d12_30) rfl ((if0 _ _).trans (feq (SU.2.1)).1) kont) ?_
  refine own_bk (S' := (T5.setTop (mkF m 34 #[rv a, rv b, iv (0 : Int32), iv (3 : Int32), .val .null, .unset] [(.ref b)]))) (fun t_ kont => XS.aloadN X6.here hx rfl (hb hby d12_33) rfl rfl kont) ?_
  refine own_bk (S' := (T5.setTop (mkF m 35 #[rv a, rv b, iv (0 : Int32), iv (3 : Int32), .val .null, .unset] [(.int (0 : Int32)), (.ref b)]))) (fun t_ kont => XS.iloadN X6.here hx rfl (hb hby d12_34) rfl kont) ?_
  refine own_bk (S' := (T5.setTop (mkF m 36 #[rv a, rv b, iv (0 : Int32), iv (3 : Int32), .val .null, .unset] [(.int (3 : Int32)), (.int (0 : Int32)), (.ref b)]))) (fun t_ kont => XS.iloadN X6.here hx rfl (hb hby d12_35) rfl kont) ?_
  obtain ⟨_, _, ⟨T9, L10, k11, n12⟩, -, X13, ⟨Lc14, hQ15, l16, y17, z18⟩, st19⟩ := Jvm.LawKit.callS X6 hx (y := (⟨"java/lang/StringUTF16", "compress", "([CII)[B"⟩ : MethodName)) hown (mvT hZ (hw _ (List.mem_of_getElem? (i := 120) rfl))) (mvT hZ (hw _ (List.mem_of_getElem? (i := 121) rfl))) (mvT hZ (hw _ (List.mem_of_getElem? (i := 122) rfl))) (mvT hZ (hw _ (List.mem_of_getElem? (i := 123) rfl))) (by decide) (backOf (W := 0) (rmC331 l Z a0 hw [] b kb q0 q1 q2 cz h0 n0 Z0 O SU VB lq0 uq0 lq1 uq1 lq2 uq2 gq0 gq1) hZ (hw _ (List.mem_of_getElem? (i := 123) rfl)) (hw _ (List.mem_of_getElem? (i := 122) rfl)) (by decide) (by decide)) (g := (mkF m 36 #[rv a, rv b, iv (0 : Int32), iv (3 : Int32), .val .null, .unset] [(.int (3 : Int32)), (.int (0 : Int32)), (.ref b)])) rfl (by rw [hml]; rfl) (argsL := [(.ref b), (.int (0 : Int32)), (.int (3 : Int32))]) (rest := []) (lenOf (by decide +kernel : parseMethodDescriptor "([CII)[B" = some ⟨[(.array .char), .int, .int], some (.array .byte)⟩) rfl) rfl (by show 2 * 0 + _ ≤ _; exact Nat.le_of_eq rfl) (hb hby d12_36) (fun _ _ => ⟨rfl, e7, (by decide : 0 + 2 ≤ _), (by decide : 0 + 9 ≤ _)⟩)
  dsimp only [Pt.U, Pt.locs, Pt.cells, Pt.slots] at X13 l16 y17 z18 st19 hQ15
  subst l16 y17 z18
  obtain ⟨N20, O_, K_, r_, kr_, vs_, rfl, Vr_⟩ := hQ15
  have N22 := Fr.app N0 N20
  have E23 := (E.keep K_)
  have F24 := (F0.keep K_ nin0)
  have F25 := (F1.keep K_ nin0)
  have Z26 := Nat.le_trans Z0 K_.1
  have O27 := O.keep K_ all0
  refine own_bk (S' := (T9.setTop (mkF m 39 #[rv a, rv b, iv (0 : Int32), iv (3 : Int32), .val .null, .unset] [(.ref r_)]))) st19 ?_
  refine own_bk (S' := (T9.setTop (mkF m 41 #[rv a, rv b, iv (0 : Int32), iv (3 : Int32), .val .null, rv r_] []))) (fun t_ kont => XS.astore X13.here hx rfl (hb hby d12_39) rfl rfl (l' := #[rv a, rv b, iv (0 : Int32), iv (3 : Int32), .val .null, rv r_]) rfl kont) ?_
  refine own_bk (S' := (T9.setTop (mkF m 42 #[rv a, rv b, iv (0 : Int32), iv (3 : Int32), .val .null, rv r_] [(.ref a)]))) (fun t_ kont => XS.aloadN X13.here hx rfl (hb hby d12_41) rfl rfl kont) ?_
  refine own_bk (S' := (T9.setTop (mkF m 44 #[rv a, rv b, iv (0 : Int32), iv (3 : Int32), .val .null, rv r_] [(.ref r_), (.ref a)]))) (fun t_ kont => XS.aload X13.here hx rfl (hb hby d12_42) rfl rfl kont) ?_
  refine own_bk (S' := (T9.setTop (mkF m 45 #[rv a, rv b, iv (0 : Int32), iv (3 : Int32), .val .null, rv r_] [(.int (3 : Int32)), (.ref r_), (.ref a)]))) (fun t_ kont => XS.iloadN X13.here hx rfl (hb hby d12_44) rfl kont) ?_
  obtain ⟨_, _, ⟨T28, L29, k30, n31⟩, -, X32, ⟨Lc33, hQ34, l35, y36, z37⟩, st38⟩ := Jvm.LawKit.callS X13 hx (y := (⟨"java/lang/StringUTF16", "coderFromArrayLen", "([BI)B"⟩ : MethodName)) hown (mvT hZ (hw _ (List.mem_of_getElem? (i := 127) rfl))) (mvT hZ (hw _ (List.mem_of_getElem? (i := 128) rfl))) (mvT hZ (hw _ (List.mem_of_getElem? (i := 122) rfl))) (mvT hZ (hw _ (List.mem_of_getElem? (i := 129) rfl))) (by decide) (backOf (W := 1) (rmCL36 l Z a0 hw [] r_ kr_ vs_ T9.heap n0 Z26 Vr_) hZ (hw _ (List.mem_of_getElem? (i := 129) rfl)) (hw _ (List.mem_of_getElem? (i := 122) rfl)) (by decide) (by decide)) (g := (mkF m 45 #[rv a, rv b, iv (0 : Int32), iv (3 : Int32), .val .null, rv r_] [(.int (3 : Int32)), (.ref r_), (.ref a)])) rfl (by rw [hml]; rfl) (argsL := [(.ref r_), (.int (3 : Int32))]) (rest := [(.ref a)]) (lenOf (by decide +kernel : parseMethodDescriptor "([BI)B" = some ⟨[(.array .byte), .int], some .byte⟩) rfl) rfl (by show 2 * 0 + _ ≤ _; exact Nat.le_of_eq rfl) (hb hby d12_45) (fun _ _ => ⟨rfl, rfl, (by decide : 2 + 0 ≤ _), (by decide : 9 + 0 ≤ _)⟩)
  dsimp only [Pt.U, Pt.locs, Pt.cells, Pt.slots] at X32 l35 y36 z37 st38 hQ34
  subst l35 y36 z37
  obtain ⟨rfl, N39, e40⟩ := hQ34
  have N41 := Fr.app N22 N39
  refine own_bk (S' := (T28.setTop (mkF m 48 #[rv a, rv b, iv (0 : Int32), iv (3 : Int32), .val .null, rv r_] [(.int (1 : Int32)), (.ref a)]))) st38 ?_
  obtain ⟨T42, h43, X44, e45, W46, st47⟩ := putF X32 hx hZ hown (host := "") (Or.inl (hw _ (List.mem_of_getElem? (i := 113) rfl))) Via.refl e40 F25 E23 (Or.inr ⟨(hw _ (List.mem_of_getElem? (i := 109) rfl)), rfl, hnm⟩) (hw _ (List.mem_of_getElem? (i := 95) rfl)) (ty := .byte) (by decide +kernel) rfl rfl (g := (mkF m 48 #[rv a, rv b, iv (0 : Int32), iv (3 : Int32), .val .null, rv r_] [(.int (1 : Int32)), (.ref a)])) rfl rfl (hb hby d12_48)
  have N48 := Fr.snoc X44 N41 ag
  have E49 := (E23.wr W46)
  have F50 := (F24.other W46 (Or.inr (slot_ne (Or.inr (hw _ (List.mem_of_getElem? (i := 108) rfl))) (Or.inr (hw _ (List.mem_of_getElem? (i := 109) rfl))) (by decide) (show parseFieldDescriptor "[B" = some (.array .byte) from by decide +kernel) (show parseFieldDescriptor "B" = some .byte from by decide +kernel))))
  have F51 := (F25.same W46)
  have Z52 := Nat.le_trans Z26 (Keep.of_wr W46).1
  have O53 := O_.wr W46 ag
  refine own_bk (S' := (T42.setTop (mkF m 51 #[rv a, rv b, iv (0 : Int32), iv (3 : Int32), .val .null, rv r_] []))) st47 ?_
  refine own_bk (S' := (T42.setTop (mkF m 52 #[rv a, rv b, iv (0 : Int32), iv (3 : Int32), .val .null, rv r_] [(.ref a)]))) (fun t_ kont => XS.aloadN X44.here hx rfl (hb hby d12_51) rfl rfl kont) ?_
  refine own_bk (S' := (T42.setTop (mkF m 54 #[rv a, rv b, iv (0 : Int32), iv (3 : Int32), .val .null, rv r_] [(.ref r_), (.ref a)]))) (fun t_ kont => XS.aload X44.here hx rfl (hb hby d12_52) rfl rfl kont) ?_
  obtain ⟨T54, h55, X56, e57, W58, st59⟩ := putF X44 hx hZ hown (host := "") (Or.inl (hw _ (List.mem_of_getElem? (i := 112) rfl))) Via.refl e45 F50 E49 (Or.inr ⟨(hw _ (List.mem_of_getElem? (i := 108) rfl)), rfl, hnm⟩) (hw _ (List.mem_of_getElem? (i := 95) rfl)) (ty := (.array .byte)) (by decide +kernel) rfl rfl (g := (mkF m 54 #[rv a, rv b, iv (0 : Int32), iv (3 : Int32), .val .null, rv r_] [(.ref r_), (.ref a)])) rfl rfl (hb hby d12_54)
  have N60 := Fr.snoc X56 N48 ag
  have E61 := (E49.wr W58)
  have F62 := (F50.same W58)
  have F63 := (F51.other W58 (Or.inr (slot_ne (Or.inr (hw _ (List.mem_of_getElem? (i := 109) rfl))) (Or.inr (hw _ (List.mem_of_getElem? (i := 108) rfl))) (by decide) (show parseFieldDescriptor "B" = some .byte from by decide +kernel) (show parseFieldDescriptor "[B" = some (.array .byte) from by decide +kernel))))
  have Z64 := Nat.le_trans Z52 (Keep.of_wr W58).1
  have O65 := O53.wr W58 ag
  refine own_bk (S' := (T54.setTop (mkF m 57 #[rv a, rv b, iv (0 : Int32), iv (3 : Int32), .val .null, rv r_] []))) st59 ?_
  exact own_retV X56 hx hlk Bd.returns (hb hby d12_57) (by rw [e57]; exact ⟨rfl, N60, O65, Z64, E61⟩) (by decide) (by decide)
theorem ef_rmI432 (m : MethodId) (x0 : Addr) (x1 : Addr) (x2 : Int32) (x3 : Int32) : entryFrame m #[(.ref x0), (.ref x1), (.int x2), (.int x3), .null] 6 = mkF m 0 #[.val (.ref x0), .val (.ref x1), .val (.int x2), .val (.int x3), .val .null, .unset] [] := by first | (simp [entryFrame, mkF, argsToLocals, Value.category, maxLocals]; done) | rfl
def Q_rmI432 (Z : State) (a b : Addr) (kb : ClassId) (q0 q1 q2 cz : Int32) (h0 : Heap) (n0 : Nat) (v : Option Value) (h : Heap) (L : List Loc) : Prop := v = none ∧ Fr n0 L ∧ Old Z n0 h ∧ n0 ≤ h.size ∧ Exa Z h a "java/lang/String"
set_option maxRecDepth 65536 in
set_option maxHeartbeats 40000000 in
theorem rmI432 (l : Launch) (Z : State) (a0 : Array Value) (hw : ∀ d ∈ tables_1, d.before a0 Z = true) (ws : List Jvm.Cond) (a b : Addr) (kb : ClassId) (q0 q1 q2 cz : Int32) (h0 : Heap) (n0 : Nat) (Z0 : n0 ≤ h0.size) (O : Old Z n0 h0) (SU : own_St Z cz) (VB : Arv Z h0 b kb .char (3 : Int32) [(.int q0), (.int q1), (.int q2)] (.int (0 : Int32))) (E : Exa Z h0 a "java/lang/String") (ag : n0 ≤ a) (F0 : Fld Z h0 a "java/lang/String" "value" "[B" .null) (F1 : Fld Z h0 a "java/lang/String" "coder" "B" (.int 0)) (lq0 : ¬ q0 < 0) (uq0 : ¬ (65535 : Int32) < q0) (lq1 : ¬ q1 < 0) (uq1 : ¬ (65535 : Int32) < q1) (lq2 : ¬ q2 < 0) (uq2 : ¬ (65535 : Int32) < q2) (gq0 : ¬ (255 : Int32) < q0) (gq1 : ¬ (255 : Int32) < q1) (gq2 : (255 : Int32) < q2) :
    MetFree l (⟨"java/lang/String", "<init>", "([CIILjava/lang/Void;)V"⟩ : MethodName) (head1 (Jvm.Cond.code (⟨"java/lang/String", "<init>", "([CIILjava/lang/Void;)V"⟩ : MethodName) jdk_42_method_149_code 6 none :: ws) ({ frames := 4, cells := 2, slots := 9, locals := 90 } : Room)) (fun as_ U_ => as_ = #[(.ref a), (.ref b), (.int (0 : Int32)), (.int (3 : Int32)), .null] ∧ Z.Warmed39 U_.vm ∧ U_.heap = h0) (fun _ _ _ _ _ => True) (fun _ U_ o_ U2_ => ∃ v_ L_, o_ = .returned v_ ∧ (Q_rmI432 Z a b kb q0 q1 q2 cz h0 n0) v_ U2_.heap L_ ∧ FrameEnd U_ o_ U2_ L_ ({ frames := 4, cells := 2, slots := 9, locals := 90 } : Room).cells ({ frames := 4, cells := 2, slots := 9, locals := 90 } : Room).slots) := by
  refine MetFree.of_bodySF (plainFor_of_name (by first | (simp [plainName, overriddenIn]; done) | decide +kernel : plainName "java/lang/String" = true)) hisR ?_
  intro p e s m args below meth c s₁ Bd hml0 hP hK
  obtain ⟨rfl, hZ, hh⟩ := hP
  have hx := Bd.exec
  have hby := Bd.bytes
  have hlk := Bd.notSynchronized
  have hml : c.maxLocals = 6 := hml0
  have hown : s.vm.findClass "java/lang/String" = some m.cls := findClass_of_methodNamed Bd.named
  have hnm := (name_of_methodNamed Bd.named Bd.method).1
  have X0 : Stand p l e ({ frames := 4, cells := 2, slots := 9, locals := 90 } : Room) s m #[(.ref a), (.ref b), (.int (0 : Int32)), (.int (3 : Int32)), .null] below meth c s₁ [] 0 0 := Stand.of_body Bd
  have e0 : s₁.heap = h0 := by rw [← hh, Bd.state]; rfl
  have N0 := Fr.nil n0
  show own_Go p e below (own_R s below (Q_rmI432 Z a b kb q0 q1 q2 cz h0 n0) ({ frames := 4, cells := 2, slots := 9, locals := 90 } : Room).cells ({ frames := 4, cells := 2, slots := 9, locals := 90 } : Room).slots) (s₁.setTop (entryFrame m #[(.ref a), (.ref b), (.int (0 : Int32)), (.int (3 : Int32)), .null] 6))
  refine own_bk (S' := (s₁.setTop (mkF m 0 #[rv a, rv b, iv (0 : Int32), iv (3 : Int32), .val .null, .unset] []))) (fun t_ kont => castTop (ef_rmI432 m (a) (b) ((0 : Int32)) ((3 : Int32))) kont) ?_
  refine own_bk (S' := (s₁.setTop (mkF m 1 #[rv a, rv b, iv (0 : Int32), iv (3 : Int32), .val .null, .unset] [(.ref a)]))) (fun t_ kont => XS.aloadN X0.here hx rfl (hb hby d12_0) rfl rfl kont) ?_
  obtain ⟨T1, X2, e3, st4⟩ := initO X0 hx hZ hown (hw _ (List.mem_of_getElem? (i := 105) rfl)) (hw _ (List.mem_of_getElem? (i := 24) rfl)) (hw _ (List.mem_of_getElem? (i := 25) rfl)) e0 (g := (mkF m 1 #[rv a, rv b, iv (0 : Int32), iv (3 : Int32), .val .null, .unset] [(.ref a)])) rfl (by rw [hml]; rfl) rfl (hb hby d12_1) (by decide) (W := 0) (by show 2 * 0 + _ ≤ _; exact Nat.le_of_eq rfl) (by decide)
  refine own_bk (S' := (T1.setTop (mkF m 4 #[rv a, rv b, iv (0 : Int32), iv (3 : Int32), .val .null, .unset] []))) st4 ?_
  refine own_bk (S' := (T1.setTop (mkF m 5 #[rv a, rv b, iv (0 : Int32), iv (3 : Int32), .val .null, .unset] [(.int (3 : Int32))]))) (fun t_ kont => XS.iloadN X2.here hx rfl (hb hby d12_4) rfl kont) ?_
  refine own_bk (S' := (T1.setTop (mkF m 27 #[rv a, rv b, iv (0 : Int32), iv (3 : Int32), .val .null, .unset] []))) (fun t_ kont => XS.ifYes X2.here hx rfl (pc0 := 5) (pc' := 27) rfl (hb hby d12_5) rfl ((if0 _ _).trans (feq (by decide : ¬ ((3 : Int32)) = ((0 : Int32)))).2) (by decide) (by decide) kont) ?_
  obtain ⟨T5, X6, e7, st8⟩ := getS2 X2 hx hZ hown (host := "") (Or.inl (hw _ (List.mem_of_getElem? (i := 119) rfl))) Via.refl e3 (SU.1.ext O.2) (g := (mkF m 27 #[rv a, rv b, iv (0 : Int32), iv (3 : Int32), .val .null, .unset] [])) rfl (hb hby d12_27)
  refine own_bk (S' := (T5.setTop (mkF m 30 #[rv a, rv b, iv (0 : Int32), iv (3 : Int32), .val .null, .unset] [(.int cz)]))) st8 ?_
  refine own_bk (S' := (T5.setTop (mkF m 33 #[rv a, rv b, iv (0 : Int32), iv (3 : Int32), .val .null, .unset] []))) (fun t_ kont => XS.ifNo X6.here hx rfl (hb hby d12_30) rfl ((if0 _ _).trans (feq (SU.2.1)).1) kont) ?_
  refine own_bk (S' := (T5.setTop (mkF m 34 #[rv a, rv b, iv (0 : Int32), iv (3 : Int32), .val .null, .unset] [(.ref b)]))) (fun t_ kont => XS.aloadN X6.here hx rfl (hb hby d12_33) rfl rfl kont) ?_
  refine own_bk (S' := (T5.setTop (mkF m 35 #[rv a, rv b, iv (0 : Int32), iv (3 : Int32), .val .null, .unset] [(.int (0 : Int32)), (.ref b)]))) (fun t_ kont => XS.iloadN X6.here hx rfl (hb hby d12_34) rfl kont) ?_
  refine own_bk (S' := (T5.setTop (mkF m 36 #[rv a, rv b, iv (0 : Int32), iv (3 : Int32), .val .null, .unset] [(.int (3 : Int32)), (.int (0 : Int32)), (.ref b)]))) (fun t_ kont => XS.iloadN X6.here hx rfl (hb hby d12_35) rfl kont) ?_
  obtain ⟨_, _, ⟨T9, L10, k11, n12⟩, -, X13, ⟨Lc14, hQ15, l16, y17, z18⟩, st19⟩ := Jvm.LawKit.callS X6 hx (y := (⟨"java/lang/StringUTF16", "compress", "([CII)[B"⟩ : MethodName)) hown (mvT hZ (hw _ (List.mem_of_getElem? (i := 120) rfl))) (mvT hZ (hw _ (List.mem_of_getElem? (i := 121) rfl))) (mvT hZ (hw _ (List.mem_of_getElem? (i := 122) rfl))) (mvT hZ (hw _ (List.mem_of_getElem? (i := 123) rfl))) (by decide) (backOf (W := 0) (rmC332 l Z a0 hw [] b kb q0 q1 q2 cz h0 n0 Z0 O SU VB lq0 uq0 lq1 uq1 lq2 uq2 gq0 gq1 gq2) hZ (hw _ (List.mem_of_getElem? (i := 123) rfl)) (hw _ (List.mem_of_getElem? (i := 122) rfl)) (by decide) (by decide)) (g := (mkF m 36 #[rv a, rv b, iv (0 : Int32), iv (3 : Int32), .val .null, .unset] [(.int (3 : Int32)), (.int (0 : Int32)), (.ref b)])) rfl (by rw [hml]; rfl) (argsL := [(.ref b), (.int (0 : Int32)), (.int (3 : Int32))]) (rest := []) (lenOf (by decide +kernel : parseMethodDescriptor "([CII)[B" = some ⟨[(.array .char), .int, .int], some (.array .byte)⟩) rfl) rfl (by show 2 * 0 + _ ≤ _; exact Nat.le_of_eq rfl) (hb hby d12_36) (fun _ _ => ⟨rfl, e7, (by decide : 0 + 2 ≤ _), (by decide : 0 + 9 ≤ _)⟩)
  dsimp only [Pt.U, Pt.locs, Pt.cells, Pt.slots] at X13 l16 y17 z18 st19 hQ15
  subst l16 y17 z18
  obtain ⟨N20, O_, K_, r_, kr_, vs_, rfl, Vr_⟩ := hQ15
  have N22 := Fr.app N0 N20
  have E23 := (E.keep K_)
  have F24 := (F0.keep K_ nin0)
  have F25 := (F1.keep K_ nin0)
  have Z26 := Nat.le_trans Z0 K_.1
  have O27 := O.keep K_ all0
  refine own_bk (S' := (T9.setTop (mkF m 39 #[rv a, rv b, iv (0 : Int32), iv (3 : Int32), .val .null, .unset] [(.ref r_)]))) st19 ?_
  refine own_bk (S' := (T9.setTop (mkF m 41 #[rv a, rv b, iv (0 : Int32), iv (3 : Int32), .val .null, rv r_] []))) (fun t_ kont => XS.astore X13.here hx rfl (hb hby d12_39) rfl rfl (l' := #[rv a, rv b, iv (0 : Int32), iv (3 : Int32), .val .null, rv r_]) rfl kont) ?_
  refine own_bk (S' := (T9.setTop (mkF m 42 #[rv a, rv b, iv (0 : Int32), iv (3 : Int32), .val .null, rv r_] [(.ref a)]))) (fun t_ kont => XS.aloadN X13.here hx rfl (hb hby d12_41) rfl rfl kont) ?_
  refine own_bk (S' := (T9.setTop (mkF m 44 #[rv a, rv b, iv (0 : Int32), iv (3 : Int32), .val .null, rv r_] [(.ref r_), (.ref a)]))) (fun t_ kont => XS.aload X13.here hx rfl (hb hby d12_42) rfl rfl kont) ?_
  refine own_bk (S' := (T9.setTop (mkF m 45 #[rv a, rv b, iv (0 : Int32), iv (3 : Int32), .val .null, rv r_] [(.int (3 : Int32)), (.ref r_), (.ref a)]))) (fun t_ kont => XS.iloadN X13.here hx rfl (hb hby d12_44) rfl kont) ?_
  obtain ⟨_, _, ⟨T28, L29, k30, n31⟩, -, X32, ⟨Lc33, hQ34, l35, y36, z37⟩, st38⟩ := Jvm.LawKit.callS X13 hx (y := (⟨"java/lang/StringUTF16", "coderFromArrayLen", "([BI)B"⟩ : MethodName)) hown (mvT hZ (hw _ (List.mem_of_getElem? (i := 127) rfl))) (mvT hZ (hw _ (List.mem_of_getElem? (i := 128) rfl))) (mvT hZ (hw _ (List.mem_of_getElem? (i := 122) rfl))) (mvT hZ (hw _ (List.mem_of_getElem? (i := 129) rfl))) (by decide) (backOf (W := 1) (rmCL36 l Z a0 hw [] r_ kr_ vs_ T9.heap n0 Z26 Vr_) hZ (hw _ (List.mem_of_getElem? (i := 129) rfl)) (hw _ (List.mem_of_getElem? (i := 122) rfl)) (by decide) (by decide)) (g := (mkF m 45 #[rv a, rv b, iv (0 : Int32), iv (3 : Int32), .val .null, rv r_] [(.int (3 : Int32)), (.ref r_), (.ref a)])) rfl (by rw [hml]; rfl) (argsL := [(.ref r_), (.int (3 : Int32))]) (rest := [(.ref a)]) (lenOf (by decide +kernel : parseMethodDescriptor "([BI)B" = some ⟨[(.array .byte), .int], some .byte⟩) rfl) rfl (by show 2 * 0 + _ ≤ _; exact Nat.le_of_eq rfl) (hb hby d12_45) (fun _ _ => ⟨rfl, rfl, (by decide : 2 + 0 ≤ _), (by decide : 9 + 0 ≤ _)⟩)
  dsimp only [Pt.U, Pt.locs, Pt.cells, Pt.slots] at X32 l35 y36 z37 st38 hQ34
  subst l35 y36 z37
  obtain ⟨rfl, N39, e40⟩ := hQ34
  have N41 := Fr.app N22 N39
  refine own_bk (S' := (T28.setTop (mkF m 48 #[rv a, rv b, iv (0 : Int32), iv (3 : Int32), .val .null, rv r_] [(.int (1 : Int32)), (.ref a)]))) st38 ?_
  obtain ⟨T42, h43, X44, e45, W46, st47⟩ := putF X32 hx hZ hown (host := "") (Or.inl (hw _ (List.mem_of_getElem? (i := 113) rfl))) Via.refl e40 F25 E23 (Or.inr ⟨(hw _ (List.mem_of_getElem? (i := 109) rfl)), rfl, hnm⟩) (hw _ (List.mem_of_getElem? (i := 95) rfl)) (ty := .byte) (by decide +kernel) rfl rfl (g := (mkF m 48 #[rv a, rv b, iv (0 : Int32), iv (3 : Int32), .val .null, rv r_] [(.int (1 : Int32)), (.ref a)])) rfl rfl (hb hby d12_48)
  have N48 := Fr.snoc X44 N41 ag
  have E49 := (E23.wr W46)
  have F50 := (F24.other W46 (Or.inr (slot_ne (Or.inr (hw _ (List.mem_of_getElem? (i := 108) rfl))) (Or.inr (hw _ (List.mem_of_getElem? (i := 109) rfl))) (by decide) (show parseFieldDescriptor "[B" = some (.array .byte) from by decide +kernel) (show parseFieldDescriptor "B" = some .byte from by decide +kernel))))
  have F51 := (F25.same W46)
  have Z52 := Nat.le_trans Z26 (Keep.of_wr W46).1
  have O53 := O_.wr W46 ag
  refine own_bk (S' := (T42.setTop (mkF m 51 #[rv a, rv b, iv (0 : Int32), iv (3 : Int32), .val .null, rv r_] []))) st47 ?_
  refine own_bk (S' := (T42.setTop (mkF m 52 #[rv a, rv b, iv (0 : Int32), iv (3 : Int32), .val .null, rv r_] [(.ref a)]))) (fun t_ kont => XS.aloadN X44.here hx rfl (hb hby d12_51) rfl rfl kont) ?_
  refine own_bk (S' := (T42.setTop (mkF m 54 #[rv a, rv b, iv (0 : Int32), iv (3 : Int32), .val .null, rv r_] [(.ref r_), (.ref a)]))) (fun t_ kont => XS.aload X44.here hx rfl (hb hby d12_52) rfl rfl kont) ?_
  obtain ⟨T54, h55, X56, e57, W58, st59⟩ := putF X44 hx hZ hown (host := "") (Or.inl (hw _ (List.mem_of_getElem? (i := 112) rfl))) Via.refl e45 F50 E49 (Or.inr ⟨(hw _ (List.mem_of_getElem? (i := 108) rfl)), rfl, hnm⟩) (hw _ (List.mem_of_getElem? (i := 95) rfl)) (ty := (.array .byte)) (by decide +kernel) rfl rfl (g := (mkF m 54 #[rv a, rv b, iv (0 : Int32), iv (3 : Int32), .val .null, rv r_] [(.ref r_), (.ref a)])) rfl rfl (hb hby d12_54)
  have N60 := Fr.snoc X56 N48 ag
  have E61 := (E49.wr W58)
  have F62 := (F50.same W58)
  have F63 := (F51.other W58 (Or.inr (slot_ne (Or.inr (hw _ (List.mem_of_getElem? (i := 109) rfl))) (Or.inr (hw _ (List.mem_of_getElem? (i := 108) rfl))) (by decide) (show parseFieldDescriptor "B" = some .byte from by decide +kernel) (show parseFieldDescriptor "[B" = some (.array .byte) from by decide +kernel))))
  have Z64 := Nat.le_trans Z52 (Keep.of_wr W58).1
  have O65 := O53.wr W58 ag
  refine own_bk (S' := (T54.setTop (mkF m 57 #[rv a, rv b, iv (0 : Int32), iv (3 : Int32), .val .null, rv r_] []))) st59 ?_
  exact own_retV X56 hx hlk Bd.returns (hb hby d12_57) (by rw [e57]; exact ⟨rfl, N60, O65, Z64, E61⟩) (by decide) (by decide)
theorem ef_rmI433 (m : MethodId) (x0 : Addr) (x1 : Addr) (x2 : Int32) (x3 : Int32) : entryFrame m #[(.ref x0), (.ref x1), (.int x2), (.int x3), .null] 6 = mkF m 0 #[.val (.ref x0), .val (.ref x1), .val (.int x2), .val (.int x3), .val .null, .unset] [] := by first | (simp [entryFrame, mkF, argsToLocals, Value.category, maxLocals]; done) | rfl
def Q_rmI433 (Z : State) (a b : Addr) (kb : ClassId) (q0 q1 q2 cz : Int32) (h0 : Heap) (n0 : Nat) (v : Option Value) (h : Heap) (L : List Loc) : Prop := v = none ∧ Fr n0 L ∧ Old Z n0 h ∧ n0 ≤ h.size ∧ Exa Z h a "java/lang/String"
set_option maxRecDepth 65536 in
set_option maxHeartbeats 40000000 in
theorem rmI433 (l : Launch) (Z : State) (a0 : Array Value) (hw : ∀ d ∈ tables_1, d.before a0 Z = true) (ws : List Jvm.Cond) (a b : Addr) (kb : ClassId) (q0 q1 q2 cz : Int32) (h0 : Heap) (n0 : Nat) (Z0 : n0 ≤ h0.size) (O : Old Z n0 h0) (SU : own_St Z cz) (VB : Arv Z h0 b kb .char (3 : Int32) [(.int q0), (.int q1), (.int q2)] (.int (0 : Int32))) (E : Exa Z h0 a "java/lang/String") (ag : n0 ≤ a) (F0 : Fld Z h0 a "java/lang/String" "value" "[B" .null) (F1 : Fld Z h0 a "java/lang/String" "coder" "B" (.int 0)) (lq0 : ¬ q0 < 0) (uq0 : ¬ (65535 : Int32) < q0) (lq1 : ¬ q1 < 0) (uq1 : ¬ (65535 : Int32) < q1) (lq2 : ¬ q2 < 0) (uq2 : ¬ (65535 : Int32) < q2) (gq0 : ¬ (255 : Int32) < q0) (gq1 : ¬ (255 : Int32) < q1) (gq2 : ¬ (255 : Int32) < q2) :
    MetFree l (⟨"java/lang/String", "<init>", "([CIILjava/lang/Void;)V"⟩ : MethodName) (head1 (Jvm.Cond.code (⟨"java/lang/String", "<init>", "([CIILjava/lang/Void;)V"⟩ : MethodName) jdk_42_method_149_code 6 none :: ws) ({ frames := 4, cells := 2, slots := 9, locals := 90 } : Room)) (fun as_ U_ => as_ = #[(.ref a), (.ref b), (.int (0 : Int32)), (.int (3 : Int32)), .null] ∧ Z.Warmed39 U_.vm ∧ U_.heap = h0) (fun _ _ _ _ _ => True) (fun _ U_ o_ U2_ => ∃ v_ L_, o_ = .returned v_ ∧ (Q_rmI433 Z a b kb q0 q1 q2 cz h0 n0) v_ U2_.heap L_ ∧ FrameEnd U_ o_ U2_ L_ ({ frames := 4, cells := 2, slots := 9, locals := 90 } : Room).cells ({ frames := 4, cells := 2, slots := 9, locals := 90 } : Room).slots) := by
  refine MetFree.of_bodySF (plainFor_of_name (by first | (simp [plainName, overriddenIn]; done) | decide +kernel : plainName "java/lang/String" = true)) hisR ?_
  intro p e s m args below meth c s₁ Bd hml0 hP hK
  obtain ⟨rfl, hZ, hh⟩ := hP
  have hx := Bd.exec
  have hby := Bd.bytes
  have hlk := Bd.notSynchronized
  have hml : c.maxLocals = 6 := hml0
  have hown : s.vm.findClass "java/lang/String" = some m.cls := findClass_of_methodNamed Bd.named
  have hnm := (name_of_methodNamed Bd.named Bd.method).1
  have X0 : Stand p l e ({ frames := 4, cells := 2, slots := 9, locals := 90 } : Room) s m #[(.ref a), (.ref b), (.int (0 : Int32)), (.int (3 : Int32)), .null] below meth c s₁ [] 0 0 := Stand.of_body Bd
  have e0 : s₁.heap = h0 := by rw [← hh, Bd.state]; rfl
  have N0 := Fr.nil n0
  show own_Go p e below (own_R s below (Q_rmI433 Z a b kb q0 q1 q2 cz h0 n0) ({ frames := 4, cells := 2, slots := 9, locals := 90 } : Room).cells ({ frames := 4, cells := 2, slots := 9, locals := 90 } : Room).slots) (s₁.setTop (entryFrame m #[(.ref a), (.ref b), (.int (0 : Int32)), (.int (3 : Int32)), .null] 6))
  refine own_bk (S' := (s₁.setTop (mkF m 0 #[rv a, rv b, iv (0 : Int32), iv (3 : Int32), .val .null, .unset] []))) (fun t_ kont => castTop (ef_rmI433 m (a) (b) ((0 : Int32)) ((3 : Int32))) kont) ?_
  refine own_bk (S' := (s₁.setTop (mkF m 1 #[rv a, rv b, iv (0 : Int32), iv (3 : Int32), .val .null, .unset] [(.ref a)]))) (fun t_ kont => XS.aloadN X0.here hx rfl (hb hby d12_0) rfl rfl kont) ?_
  obtain ⟨T1, X2, e3, st4⟩ := initO X0 hx hZ hown (hw _ (List.mem_of_getElem? (i := 105) rfl)) (hw _ (List.mem_of_getElem? (i := 24) rfl)) (hw _ (List.mem_of_getElem? (i := 25) rfl)) e0 (g := (mkF m 1 #[rv a, rv b, iv (0 : Int32), iv (3 : Int32), .val .null, .unset] [(.ref a)])) rfl (by rw [hml]; rfl) rfl (hb hby d12_1) (by decide) (W := 0) (by show 2 * 0 + _ ≤ _; exact Nat.le_of_eq rfl) (by decide)
  refine own_bk (S' := (T1.setTop (mkF m 4 #[rv a, rv b, iv (0 : Int32), iv (3 : Int32), .val .null, .unset] []))) st4 ?_
  refine own_bk (S' := (T1.setTop (mkF m 5 #[rv a, rv b, iv (0 : Int32), iv (3 : Int32), .val .null, .unset] [(.int (3 : Int32))]))) (fun t_ kont => XS.iloadN X2.here hx rfl (hb hby d12_4) rfl kont) ?_
  refine own_bk (S' := (T1.setTop (mkF m 27 #[rv a, rv b, iv (0 : Int32), iv (3 : Int32), .val .null, .unset] []))) (fun t_ kont => XS.ifYes X2.here hx rfl (pc0 := 5) (pc' := 27) rfl (hb hby d12_5) rfl ((if0 _ _).trans (feq (by decide : ¬ ((3 : Int32)) = ((0 : Int32)))).2) (by decide) (by decide) kont) ?_
  obtain ⟨T5, X6, e7, st8⟩ := getS2 X2 hx hZ hown (host := "") (Or.inl (hw _ (List.mem_of_getElem? (i := 119) rfl))) Via.refl e3 (SU.1.ext O.2) (g := (mkF m 27 #[rv a, rv b, iv (0 : Int32), iv (3 : Int32), .val .null, .unset] [])) rfl (hb hby d12_27)
  refine own_bk (S' := (T5.setTop (mkF m 30 #[rv a, rv b, iv (0 : Int32), iv (3 : Int32), .val .null, .unset] [(.int cz)]))) st8 ?_
  refine own_bk (S' := (T5.setTop (mkF m 33 #[rv a, rv b, iv (0 : Int32), iv (3 : Int32), .val .null, .unset] []))) (fun t_ kont => XS.ifNo X6.here hx rfl (hb hby d12_30) rfl ((if0 _ _).trans (feq (SU.2.1)).1) kont) ?_
  refine own_bk (S' := (T5.setTop (mkF m 34 #[rv a, rv b, iv (0 : Int32), iv (3 : Int32), .val .null, .unset] [(.ref b)]))) (fun t_ kont => XS.aloadN X6.here hx rfl (hb hby d12_33) rfl rfl kont) ?_
  refine own_bk (S' := (T5.setTop (mkF m 35 #[rv a, rv b, iv (0 : Int32), iv (3 : Int32), .val .null, .unset] [(.int (0 : Int32)), (.ref b)]))) (fun t_ kont => XS.iloadN X6.here hx rfl (hb hby d12_34) rfl kont) ?_
  refine own_bk (S' := (T5.setTop (mkF m 36 #[rv a, rv b, iv (0 : Int32), iv (3 : Int32), .val .null, .unset] [(.int (3 : Int32)), (.int (0 : Int32)), (.ref b)]))) (fun t_ kont => XS.iloadN X6.here hx rfl (hb hby d12_35) rfl kont) ?_
  obtain ⟨_, _, ⟨T9, L10, k11, n12⟩, -, X13, ⟨Lc14, hQ15, l16, y17, z18⟩, st19⟩ := Jvm.LawKit.callS X6 hx (y := (⟨"java/lang/StringUTF16", "compress", "([CII)[B"⟩ : MethodName)) hown (mvT hZ (hw _ (List.mem_of_getElem? (i := 120) rfl))) (mvT hZ (hw _ (List.mem_of_getElem? (i := 121) rfl))) (mvT hZ (hw _ (List.mem_of_getElem? (i := 122) rfl))) (mvT hZ (hw _ (List.mem_of_getElem? (i := 123) rfl))) (by decide) (backOf (W := 0) (rmC333 l Z a0 hw [] b kb q0 q1 q2 cz h0 n0 Z0 O SU VB lq0 uq0 lq1 uq1 lq2 uq2 gq0 gq1 gq2) hZ (hw _ (List.mem_of_getElem? (i := 123) rfl)) (hw _ (List.mem_of_getElem? (i := 122) rfl)) (by decide) (by decide)) (g := (mkF m 36 #[rv a, rv b, iv (0 : Int32), iv (3 : Int32), .val .null, .unset] [(.int (3 : Int32)), (.int (0 : Int32)), (.ref b)])) rfl (by rw [hml]; rfl) (argsL := [(.ref b), (.int (0 : Int32)), (.int (3 : Int32))]) (rest := []) (lenOf (by decide +kernel : parseMethodDescriptor "([CII)[B" = some ⟨[(.array .char), .int, .int], some (.array .byte)⟩) rfl) rfl (by show 2 * 0 + _ ≤ _; exact Nat.le_of_eq rfl) (hb hby d12_36) (fun _ _ => ⟨rfl, e7, (by decide : 0 + 2 ≤ _), (by decide : 0 + 9 ≤ _)⟩)
  dsimp only [Pt.U, Pt.locs, Pt.cells, Pt.slots] at X13 l16 y17 z18 st19 hQ15
  subst l16 y17 z18
  obtain ⟨N20, O_, K_, r_, kr_, vs_, rfl, Vr_⟩ := hQ15
  have N22 := Fr.app N0 N20
  have E23 := (E.keep K_)
  have F24 := (F0.keep K_ nin0)
  have F25 := (F1.keep K_ nin0)
  have Z26 := Nat.le_trans Z0 K_.1
  have O27 := O.keep K_ all0
  refine own_bk (S' := (T9.setTop (mkF m 39 #[rv a, rv b, iv (0 : Int32), iv (3 : Int32), .val .null, .unset] [(.ref r_)]))) st19 ?_
  refine own_bk (S' := (T9.setTop (mkF m 41 #[rv a, rv b, iv (0 : Int32), iv (3 : Int32), .val .null, rv r_] []))) (fun t_ kont => XS.astore X13.here hx rfl (hb hby d12_39) rfl rfl (l' := #[rv a, rv b, iv (0 : Int32), iv (3 : Int32), .val .null, rv r_]) rfl kont) ?_
  refine own_bk (S' := (T9.setTop (mkF m 42 #[rv a, rv b, iv (0 : Int32), iv (3 : Int32), .val .null, rv r_] [(.ref a)]))) (fun t_ kont => XS.aloadN X13.here hx rfl (hb hby d12_41) rfl rfl kont) ?_
  refine own_bk (S' := (T9.setTop (mkF m 44 #[rv a, rv b, iv (0 : Int32), iv (3 : Int32), .val .null, rv r_] [(.ref r_), (.ref a)]))) (fun t_ kont => XS.aload X13.here hx rfl (hb hby d12_42) rfl rfl kont) ?_
  refine own_bk (S' := (T9.setTop (mkF m 45 #[rv a, rv b, iv (0 : Int32), iv (3 : Int32), .val .null, rv r_] [(.int (3 : Int32)), (.ref r_), (.ref a)]))) (fun t_ kont => XS.iloadN X13.here hx rfl (hb hby d12_44) rfl kont) ?_
  obtain ⟨_, _, ⟨T28, L29, k30, n31⟩, -, X32, ⟨Lc33, hQ34, l35, y36, z37⟩, st38⟩ := Jvm.LawKit.callS X13 hx (y := (⟨"java/lang/StringUTF16", "coderFromArrayLen", "([BI)B"⟩ : MethodName)) hown (mvT hZ (hw _ (List.mem_of_getElem? (i := 127) rfl))) (mvT hZ (hw _ (List.mem_of_getElem? (i := 128) rfl))) (mvT hZ (hw _ (List.mem_of_getElem? (i := 122) rfl))) (mvT hZ (hw _ (List.mem_of_getElem? (i := 129) rfl))) (by decide) (backOf (W := 1) (rmCL33 l Z a0 hw [] r_ kr_ vs_ T9.heap n0 Z26 Vr_) hZ (hw _ (List.mem_of_getElem? (i := 129) rfl)) (hw _ (List.mem_of_getElem? (i := 122) rfl)) (by decide) (by decide)) (g := (mkF m 45 #[rv a, rv b, iv (0 : Int32), iv (3 : Int32), .val .null, rv r_] [(.int (3 : Int32)), (.ref r_), (.ref a)])) rfl (by rw [hml]; rfl) (argsL := [(.ref r_), (.int (3 : Int32))]) (rest := [(.ref a)]) (lenOf (by decide +kernel : parseMethodDescriptor "([BI)B" = some ⟨[(.array .byte), .int], some .byte⟩) rfl) rfl (by show 2 * 0 + _ ≤ _; exact Nat.le_of_eq rfl) (hb hby d12_45) (fun _ _ => ⟨rfl, rfl, (by decide : 2 + 0 ≤ _), (by decide : 9 + 0 ≤ _)⟩)
  dsimp only [Pt.U, Pt.locs, Pt.cells, Pt.slots] at X32 l35 y36 z37 st38 hQ34
  subst l35 y36 z37
  obtain ⟨rfl, N39, e40⟩ := hQ34
  have N41 := Fr.app N22 N39
  refine own_bk (S' := (T28.setTop (mkF m 48 #[rv a, rv b, iv (0 : Int32), iv (3 : Int32), .val .null, rv r_] [(.int (0 : Int32)), (.ref a)]))) st38 ?_
  obtain ⟨T42, h43, X44, e45, W46, st47⟩ := putF X32 hx hZ hown (host := "") (Or.inl (hw _ (List.mem_of_getElem? (i := 113) rfl))) Via.refl e40 F25 E23 (Or.inr ⟨(hw _ (List.mem_of_getElem? (i := 109) rfl)), rfl, hnm⟩) (hw _ (List.mem_of_getElem? (i := 95) rfl)) (ty := .byte) (by decide +kernel) rfl rfl (g := (mkF m 48 #[rv a, rv b, iv (0 : Int32), iv (3 : Int32), .val .null, rv r_] [(.int (0 : Int32)), (.ref a)])) rfl rfl (hb hby d12_48)
  have N48 := Fr.snoc X44 N41 ag
  have E49 := (E23.wr W46)
  have F50 := (F24.other W46 (Or.inr (slot_ne (Or.inr (hw _ (List.mem_of_getElem? (i := 108) rfl))) (Or.inr (hw _ (List.mem_of_getElem? (i := 109) rfl))) (by decide) (show parseFieldDescriptor "[B" = some (.array .byte) from by decide +kernel) (show parseFieldDescriptor "B" = some .byte from by decide +kernel))))
  have F51 := (F25.same W46)
  have Z52 := Nat.le_trans Z26 (Keep.of_wr W46).1
  have O53 := O_.wr W46 ag
  refine own_bk (S' := (T42.setTop (mkF m 51 #[rv a, rv b, iv (0 : Int32), iv (3 : Int32), .val .null, rv r_] []))) st47 ?_
  refine own_bk (S' := (T42.setTop (mkF m 52 #[rv a, rv b, iv (0 : Int32), iv (3 : Int32), .val .null, rv r_] [(.ref a)]))) (fun t_ kont => XS.aloadN X44.here hx rfl (hb hby d12_51) rfl rfl kont) ?_
  refine own_bk (S' := (T42.setTop (mkF m 54 #[rv a, rv b, iv (0 : Int32), iv (3 : Int32), .val .null, rv r_] [(.ref r_), (.ref a)]))) (fun t_ kont => XS.aload X44.here hx rfl (hb hby d12_52) rfl rfl kont) ?_
  obtain ⟨T54, h55, X56, e57, W58, st59⟩ := putF X44 hx hZ hown (host := "") (Or.inl (hw _ (List.mem_of_getElem? (i := 112) rfl))) Via.refl e45 F50 E49 (Or.inr ⟨(hw _ (List.mem_of_getElem? (i := 108) rfl)), rfl, hnm⟩) (hw _ (List.mem_of_getElem? (i := 95) rfl)) (ty := (.array .byte)) (by decide +kernel) rfl rfl (g := (mkF m 54 #[rv a, rv b, iv (0 : Int32), iv (3 : Int32), .val .null, rv r_] [(.ref r_), (.ref a)])) rfl rfl (hb hby d12_54)
  have N60 := Fr.snoc X56 N48 ag
  have E61 := (E49.wr W58)
  have F62 := (F50.same W58)
  have F63 := (F51.other W58 (Or.inr (slot_ne (Or.inr (hw _ (List.mem_of_getElem? (i := 109) rfl))) (Or.inr (hw _ (List.mem_of_getElem? (i := 108) rfl))) (by decide) (show parseFieldDescriptor "B" = some .byte from by decide +kernel) (show parseFieldDescriptor "[B" = some (.array .byte) from by decide +kernel))))
  have Z64 := Nat.le_trans Z52 (Keep.of_wr W58).1
  have O65 := O53.wr W58 ag
  refine own_bk (S' := (T54.setTop (mkF m 57 #[rv a, rv b, iv (0 : Int32), iv (3 : Int32), .val .null, rv r_] []))) st59 ?_
  exact own_retV X56 hx hlk Bd.returns (hb hby d12_57) (by rw [e57]; exact ⟨rfl, N60, O65, Z64, E61⟩) (by decide) (by decide)
theorem d11_0 : decode jdk_42_method_3_code 0 = .ok (.aload_n 0, 1) := by decide +kernel
theorem d11_1 : decode jdk_42_method_3_code 1 = .ok (.aload_n 1, 1) := by decide +kernel
theorem d11_2 : decode jdk_42_method_3_code 2 = .ok (.iconst 0, 1) := by decide +kernel
theorem d11_3 : decode jdk_42_method_3_code 3 = .ok (.aload_n 1, 1) := by decide +kernel
theorem d11_4 : decode jdk_42_method_3_code 4 = .ok (.arraylength, 1) := by decide +kernel
theorem d11_5 : decode jdk_42_method_3_code 5 = .ok (.aconst_null, 1) := by decide +kernel
theorem d11_6 : decode jdk_42_method_3_code 6 = .ok (.invokespecial 27, 3) := by decide +kernel
theorem d11_9 : decode jdk_42_method_3_code 9 = .ok (.return_, 1) := by decide +kernel
theorem ef_rmI120 (m : MethodId) (x0 : Addr) (x1 : Addr) : entryFrame m #[(.ref x0), (.ref x1)] 2 = mkF m 0 #[.val (.ref x0), .val (.ref x1)] [] := by first | (simp [entryFrame, mkF, argsToLocals, Value.category, maxLocals]; done) | rfl
def Q_rmI120 (Z : State) (a b : Addr) (kb : ClassId) (q0 q1 cz : Int32) (h0 : Heap) (n0 : Nat) (v : Option Value) (h : Heap) (L : List Loc) : Prop := v = none ∧ Fr n0 L ∧ Old Z n0 h ∧ n0 ≤ h.size ∧ Exa Z h a "java/lang/String"
set_option maxRecDepth 65536 in
set_option maxHeartbeats 40000000 in
theorem rmI120 (l : Launch) (Z : State) (a0 : Array Value) (hw : ∀ d ∈ tables_1, d.before a0 Z = true) (ws : List Jvm.Cond) (a b : Addr) (kb : ClassId) (q0 q1 cz : Int32) (h0 : Heap) (n0 : Nat) (Z0 : n0 ≤ h0.size) (O : Old Z n0 h0) (SU : own_St Z cz) (VB : Arv Z h0 b kb .char (2 : Int32) [(.int q0), (.int q1)] (.int (0 : Int32))) (E : Exa Z h0 a "java/lang/String") (ag : n0 ≤ a) (F0 : Fld Z h0 a "java/lang/String" "value" "[B" .null) (F1 : Fld Z h0 a "java/lang/String" "coder" "B" (.int 0)) (lq0 : ¬ q0 < 0) (uq0 : ¬ (65535 : Int32) < q0) (lq1 : ¬ q1 < 0) (uq1 : ¬ (65535 : Int32) < q1)  (gq0 : (255 : Int32) < q0) :
    MetFree l (⟨"java/lang/String", "<init>", "([C)V"⟩ : MethodName) (head1 (Jvm.Cond.code (⟨"java/lang/String", "<init>", "([C)V"⟩ : MethodName) jdk_42_method_3_code 2 none :: ws) ({ frames := 5, cells := 2, slots := 9, locals := 115 } : Room)) (fun as_ U_ => as_ = #[(.ref a), (.ref b)] ∧ Z.Warmed39 U_.vm ∧ U_.heap = h0) (fun _ _ _ _ _ => True) (fun _ U_ o_ U2_ => ∃ v_ L_, o_ = .returned v_ ∧ (Q_rmI120 Z a b kb q0 q1 cz h0 n0) v_ U2_.heap L_ ∧ FrameEnd U_ o_ U2_ L_ ({ frames := 5, cells := 2, slots := 9, locals := 115 } : Room).cells ({ frames := 5, cells := 2, slots := 9, locals := 115 } : Room).slots) := by
  refine MetFree.of_bodySF (plainFor_of_name (by first | (simp [plainName, overriddenIn]; done) | decide +kernel : plainName "java/lang/String" = true)) hisR ?_
  intro p e s m args below meth c s₁ Bd hml0 hP hK
  obtain ⟨rfl, hZ, hh⟩ := hP
  have hx := Bd.exec
  have hby := Bd.bytes
  have hlk := Bd.notSynchronized
  have hml : c.maxLocals = 2 := hml0
  have hown : s.vm.findClass "java/lang/String" = some m.cls := findClass_of_methodNamed Bd.named
  have hnm := (name_of_methodNamed Bd.named Bd.method).1
  have X0 : Stand p l e ({ frames := 5, cells := 2, slots := 9, locals := 115 } : Room) s m #[(.ref a), (.ref b)] below meth c s₁ [] 0 0 := Stand.of_body Bd
  have e0 : s₁.heap = h0 := by rw [← hh, Bd.state]; rfl
  have N0 := Fr.nil n0
  show own_Go p e below (own_R s below (Q_rmI120 Z a b kb q0 q1 cz h0 n0) ({ frames := 5, cells := 2, slots := 9, locals := 115 } : Room).cells ({ frames := 5, cells := 2, slots := 9, locals := 115 } : Room).slots) (s₁.setTop (entryFrame m #[(.ref a), (.ref b)] 2))
  refine own_bk (S' := (s₁.setTop (mkF m 0 #[rv a, rv b] []))) (fun t_ kont => castTop (ef_rmI120 m (a) (b)) kont) ?_
  refine own_bk (S' := (s₁.setTop (mkF m 1 #[rv a, rv b] [(.ref a)]))) (fun t_ kont => XS.aloadN X0.here hx rfl (hb hby d11_0) rfl rfl kont) ?_
  refine own_bk (S' := (s₁.setTop (mkF m 2 #[rv a, rv b] [(.ref b), (.ref a)]))) (fun t_ kont => XS.aloadN X0.here hx rfl (hb hby d11_1) rfl rfl kont) ?_
  refine own_bk (S' := (s₁.setTop (mkF m 3 #[rv a, rv b] [(.int (0 : Int32)), (.ref b), (.ref a)]))) (fun t_ kont => XS.iconst X0.here hx rfl (hb hby d11_2) kont) ?_
  refine own_bk (S' := (s₁.setTop (mkF m 4 #[rv a, rv b] [(.ref b), (.int (0 : Int32)), (.ref b), (.ref a)]))) (fun t_ kont => XS.aloadN X0.here hx rfl (hb hby d11_3) rfl rfl kont) ?_
  obtain ⟨c1, A2, q3, S4, M5, H6, U7⟩ := id VB
  refine own_bk (S' := (s₁.setTop (mkF m 5 #[rv a, rv b] [(.int c1.slots.size.toInt32), (.int (0 : Int32)), (.ref b), (.ref a)]))) (fun t_ kont => X0.arraylength hx (cell := c1) (by rw [show s₁.heap = h0 from e0]; exact A2.1) (State.isArrayOf_alike hZ.alike A2.2.1) (g := (mkF m 4 #[rv a, rv b] [(.ref b), (.int (0 : Int32)), (.ref b), (.ref a)])) rfl rfl (hb hby d11_4) _ kont) ?_
  rw [len_of S4 M5]
  refine own_bk (S' := (s₁.setTop (mkF m 6 #[rv a, rv b] [.null, (.int (2 : Int32)), (.int (0 : Int32)), (.ref b), (.ref a)]))) (fun t_ kont => XS.aconstNull X0.here hx rfl (hb hby d11_5) kont) ?_
  obtain ⟨_, _, ⟨T8, L9, k10, n11⟩, -, X12, ⟨Lc13, hQ14, l15, y16, z17⟩, st18⟩ := X0.specialBack hx (y := (⟨"java/lang/String", "<init>", "([CIILjava/lang/Void;)V"⟩ : MethodName)) rfl hown (mvT hZ (hw _ (List.mem_of_getElem? (i := 101) rfl))) (mvT hZ (hw _ (List.mem_of_getElem? (i := 102) rfl))) (mvT hZ (hw _ (List.mem_of_getElem? (i := 104) rfl))) (by decide) (backOf (W := 0) (rmI420 l Z a0 hw [] a b kb q0 q1 cz h0 n0 Z0 O SU VB E ag F0 F1 lq0 uq0 lq1 uq1 gq0) hZ (hw _ (List.mem_of_getElem? (i := 104) rfl)) (hw _ (List.mem_of_getElem? (i := 96) rfl)) (by decide) (by decide)) (g := (mkF m 6 #[rv a, rv b] [.null, (.int (2 : Int32)), (.int (0 : Int32)), (.ref b), (.ref a)])) rfl (by rw [hml]; rfl) (Steps.refl _) (a := a) (argsL := [(.ref b), (.int (0 : Int32)), (.int (2 : Int32)), .null]) (rest := []) (lenOf (by decide +kernel : parseMethodDescriptor "([CIILjava/lang/Void;)V" = some ⟨[(.array .char), .int, .int, (.object "java/lang/Void")], none⟩) rfl) rfl (by show 2 * 0 + _ ≤ _; exact Nat.le_of_eq rfl) (hb hby d11_6) (fun _ _ => ⟨rfl, e0, (by decide : 0 + 2 ≤ _), (by decide : 0 + 9 ≤ _)⟩)
  dsimp only [Pt.U, Pt.locs, Pt.cells, Pt.slots] at X12 l15 y16 z17 st18 hQ14
  subst l15 y16 z17
  obtain ⟨rfl, N19, O_, Z_, E_⟩ := hQ14
  have N21 := Fr.app N0 N19
  refine own_tr (S' := (T8.setTop (mkF m 9 #[rv a, rv b] []))) st18 ?_
  exact own_retV X12 hx hlk Bd.returns (hb hby d11_9) ⟨rfl, N21, O_, Z_, E_⟩ (by decide) (by decide)
theorem ef_rmI121 (m : MethodId) (x0 : Addr) (x1 : Addr) : entryFrame m #[(.ref x0), (.ref x1)] 2 = mkF m 0 #[.val (.ref x0), .val (.ref x1)] [] := by first | (simp [entryFrame, mkF, argsToLocals, Value.category, maxLocals]; done) | rfl
def Q_rmI121 (Z : State) (a b : Addr) (kb : ClassId) (q0 q1 cz : Int32) (h0 : Heap) (n0 : Nat) (v : Option Value) (h : Heap) (L : List Loc) : Prop := v = none ∧ Fr n0 L ∧ Old Z n0 h ∧ n0 ≤ h.size ∧ Exa Z h a "java/lang/String"
set_option maxRecDepth 65536 in
set_option maxHeartbeats 40000000 in
theorem rmI121 (l : Launch) (Z : State) (a0 : Array Value) (hw : ∀ d ∈ tables_1, d.before a0 Z = true) (ws : List Jvm.Cond) (a b : Addr) (kb : ClassId) (q0 q1 cz : Int32) (h0 : Heap) (n0 : Nat) (Z0 : n0 ≤ h0.size) (O : Old Z n0 h0) (SU : own_St Z cz) (VB : Arv Z h0 b kb .char (2 : Int32) [(.int q0), (.int q1)] (.int (0 : Int32))) (E : Exa Z h0 a "java/lang/String") (ag : n0 ≤ a) (F0 : Fld Z h0 a "java/lang/String" "value" "[B" .null) (F1 : Fld Z h0 a "java/lang/String" "coder" "B" (.int 0)) (lq0 : ¬ q0 < 0) (uq0 : ¬ (65535 : Int32) < q0) (lq1 : ¬ q1 < 0) (uq1 : ¬ (65535 : Int32) < q1) (gq0 : ¬ (255 : Int32) < q0) (gq1 : (255 : Int32) < q1) :
    MetFree l (⟨"java/lang/String", "<init>", "([C)V"⟩ : MethodName) (head1 (Jvm.Cond.code (⟨"java/lang/String", "<init>", "([C)V"⟩ : MethodName) jdk_42_method_3_code 2 none :: ws) ({ frames := 5, cells := 2, slots := 9, locals := 115 } : Room)) (fun as_ U_ => as_ = #[(.ref a), (.ref b)] ∧ Z.Warmed39 U_.vm ∧ U_.heap = h0) (fun _ _ _ _ _ => True) (fun _ U_ o_ U2_ => ∃ v_ L_, o_ = .returned v_ ∧ (Q_rmI121 Z a b kb q0 q1 cz h0 n0) v_ U2_.heap L_ ∧ FrameEnd U_ o_ U2_ L_ ({ frames := 5, cells := 2, slots := 9, locals := 115 } : Room).cells ({ frames := 5, cells := 2, slots := 9, locals := 115 } : Room).slots) := by
  refine MetFree.of_bodySF (plainFor_of_name (by first | (simp [plainName, overriddenIn]; done) | decide +kernel : plainName "java/lang/String" = true)) hisR ?_
  intro p e s m args below meth c s₁ Bd hml0 hP hK
  obtain ⟨rfl, hZ, hh⟩ := hP
  have hx := Bd.exec
  have hby := Bd.bytes
  have hlk := Bd.notSynchronized
  have hml : c.maxLocals = 2 := hml0
  have hown : s.vm.findClass "java/lang/String" = some m.cls := findClass_of_methodNamed Bd.named
  have hnm := (name_of_methodNamed Bd.named Bd.method).1
  have X0 : Stand p l e ({ frames := 5, cells := 2, slots := 9, locals := 115 } : Room) s m #[(.ref a), (.ref b)] below meth c s₁ [] 0 0 := Stand.of_body Bd
  have e0 : s₁.heap = h0 := by rw [← hh, Bd.state]; rfl
  have N0 := Fr.nil n0
  show own_Go p e below (own_R s below (Q_rmI121 Z a b kb q0 q1 cz h0 n0) ({ frames := 5, cells := 2, slots := 9, locals := 115 } : Room).cells ({ frames := 5, cells := 2, slots := 9, locals := 115 } : Room).slots) (s₁.setTop (entryFrame m #[(.ref a), (.ref b)] 2))
  refine own_bk (S' := (s₁.setTop (mkF m 0 #[rv a, rv b] []))) (fun t_ kont => castTop (ef_rmI121 m (a) (b)) kont) ?_
  refine own_bk (S' := (s₁.setTop (mkF m 1 #[rv a, rv b] [(.ref a)]))) (fun t_ kont => XS.aloadN X0.here hx rfl (hb hby d11_0) rfl rfl kont) ?_
  refine own_bk (S' := (s₁.setTop (mkF m 2 #[rv a, rv b] [(.ref b), (.ref a)]))) (fun t_ kont => XS.aloadN X0.here hx rfl (hb hby d11_1) rfl rfl kont) ?_
  refine own_bk (S' := (s₁.setTop (mkF m 3 #[rv a, rv b] [(.int (0 : Int32)), (.ref b), (.ref a)]))) (fun t_ kont => XS.iconst X0.here hx rfl (hb hby d11_2) kont) ?_
  refine own_bk (S' := (s₁.setTop (mkF m 4 #[rv a, rv b] [(.ref b), (.int (0 : Int32)), (.ref b), (.ref a)]))) (fun t_ kont => XS.aloadN X0.here hx rfl (hb hby d11_3) rfl rfl kont) ?_
  obtain ⟨c1, A2, q3, S4, M5, H6, U7⟩ := id VB
  refine own_bk (S' := (s₁.setTop (mkF m 5 #[rv a, rv b] [(.int c1.slots.size.toInt32), (.int (0 : Int32)), (.ref b), (.ref a)]))) (fun t_ kont => X0.arraylength hx (cell := c1) (by rw [show s₁.heap = h0 from e0]; exact A2.1) (State.isArrayOf_alike hZ.alike A2.2.1) (g := (mkF m 4 #[rv a, rv b] [(.ref b), (.int (0 : Int32)), (.ref b), (.ref a)])) rfl rfl (hb hby d11_4) _ kont) ?_
  rw [len_of S4 M5]
  refine own_bk (S' := (s₁.setTop (mkF m 6 #[rv a, rv b] [.null, (.int (2 : Int32)), (.int (0 : Int32)), (.ref b), (.ref a)]))) (fun t_ kont => XS.aconstNull X0.here hx rfl (hb hby d11_5) kont) ?_
  obtain ⟨_, _, ⟨T8, L9, k10, n11⟩, -, X12, ⟨Lc13, hQ14, l15, y16, z17⟩, st18⟩ := X0.specialBack hx (y := (⟨"java/lang/String", "<init>", "([CIILjava/lang/Void;)V"⟩ : MethodName)) rfl hown (mvT hZ (hw _ (List.mem_of_getElem? (i := 101) rfl))) (mvT hZ (hw _ (List.mem_of_getElem? (i := 102) rfl))) (mvT hZ (hw _ (List.mem_of_getElem? (i := 104) rfl))) (by decide) (backOf (W := 0) (rmI421 l Z a0 hw [] a b kb q0 q1 cz h0 n0 Z0 O SU VB E ag F0 F1 lq0 uq0 lq1 uq1 gq0 gq1) hZ (hw _ (List.mem_of_getElem? (i := 104) rfl)) (hw _ (List.mem_of_getElem? (i := 96) rfl)) (by decide) (by decide)) (g := (mkF m 6 #[rv a, rv b] [.null, (.int (2 : Int32)), (.int (0 : Int32)), (.ref b), (.ref a)])) rfl (by rw [hml]; rfl) (Steps.refl _) (a := a) (argsL := [(.ref b), (.int (0 : Int32)), (.int (2 : Int32)), .null]) (rest := []) (lenOf (by decide +kernel : parseMethodDescriptor "([CIILjava/lang/Void;)V" = some ⟨[(.array .char), .int, .int, (.object "java/lang/Void")], none⟩) rfl) rfl (by show 2 * 0 + _ ≤ _; exact Nat.le_of_eq rfl) (hb hby d11_6) (fun _ _ => ⟨rfl, e0, (by decide : 0 + 2 ≤ _), (by decide : 0 + 9 ≤ _)⟩)
  dsimp only [Pt.U, Pt.locs, Pt.cells, Pt.slots] at X12 l15 y16 z17 st18 hQ14
  subst l15 y16 z17
  obtain ⟨rfl, N19, O_, Z_, E_⟩ := hQ14
  have N21 := Fr.app N0 N19
  refine own_tr (S' := (T8.setTop (mkF m 9 #[rv a, rv b] []))) st18 ?_
  exact own_retV X12 hx hlk Bd.returns (hb hby d11_9) ⟨rfl, N21, O_, Z_, E_⟩ (by decide) (by decide)
theorem ef_rmI122 (m : MethodId) (x0 : Addr) (x1 : Addr) : entryFrame m #[(.ref x0), (.ref x1)] 2 = mkF m 0 #[.val (.ref x0), .val (.ref x1)] [] := by first | (simp [entryFrame, mkF, argsToLocals, Value.category, maxLocals]; done) | rfl
def Q_rmI122 (Z : State) (a b : Addr) (kb : ClassId) (q0 q1 cz : Int32) (h0 : Heap) (n0 : Nat) (v : Option Value) (h : Heap) (L : List Loc) : Prop := v = none ∧ Fr n0 L ∧ Old Z n0 h ∧ n0 ≤ h.size ∧ Exa Z h a "java/lang/String"
set_option maxRecDepth 65536 in
set_option maxHeartbeats 40000000 in
theorem rmI122 (l : Launch) (Z : State) (a0 : Array Value) (hw : ∀ d ∈ tables_1, d.before a0 Z = true) (ws : List Jvm.Cond) (a b : Addr) (kb : ClassId) (q0 q1 cz : Int32) (h0 : Heap) (n0 : Nat) (Z0 : n0 ≤ h0.size) (O : Old Z n0 h0) (SU : own_St Z cz) (VB : Arv Z h0 b kb .char (2 : Int32) [(.int q0), (.int q1)] (.int (0 : Int32))) (E : Exa Z h0 a "java/lang/String") (ag : n0 ≤ a) (F0 : Fld Z h0 a "java/lang/String" "value" "[B" .null) (F1 : Fld Z h0 a "java/lang/String" "coder" "B" (.int 0)) (lq0 : ¬ q0 < 0) (uq0 : ¬ (65535 : Int32) < q0) (lq1 : ¬ q1 < 0) (uq1 : ¬ (65535 : Int32) < q1) (gq0 : ¬ (255 : Int32) < q0) (gq1 : ¬ (255 : Int32) < q1) :
    MetFree l (⟨"java/lang/String", "<init>", "([C)V"⟩ : MethodName) (head1 (Jvm.Cond.code (⟨"java/lang/String", "<init>", "([C)V"⟩ : MethodName) jdk_42_method_3_code 2 none :: ws) ({ frames := 5, cells := 2, slots := 9, locals := 115 } : Room)) (fun as_ U_ => as_ = #[(.ref a), (.ref b)] ∧ Z.Warmed39 U_.vm ∧ U_.heap = h0) (fun _ _ _ _ _ => True) (fun _ U_ o_ U2_ => ∃ v_ L_, o_ = .returned v_ ∧ (Q_rmI122 Z a b kb q0 q1 cz h0 n0) v_ U2_.heap L_ ∧ FrameEnd U_ o_ U2_ L_ ({ frames := 5, cells := 2, slots := 9, locals := 115 } : Room).cells ({ frames := 5, cells := 2, slots := 9, locals := 115 } : Room).slots) := by
  refine MetFree.of_bodySF (plainFor_of_name (by first | (simp [plainName, overriddenIn]; done) | decide +kernel : plainName "java/lang/String" = true)) hisR ?_
  intro p e s m args below meth c s₁ Bd hml0 hP hK
  obtain ⟨rfl, hZ, hh⟩ := hP
  have hx := Bd.exec
  have hby := Bd.bytes
  have hlk := Bd.notSynchronized
  have hml : c.maxLocals = 2 := hml0
  have hown : s.vm.findClass "java/lang/String" = some m.cls := findClass_of_methodNamed Bd.named
  have hnm := (name_of_methodNamed Bd.named Bd.method).1
  have X0 : Stand p l e ({ frames := 5, cells := 2, slots := 9, locals := 115 } : Room) s m #[(.ref a), (.ref b)] below meth c s₁ [] 0 0 := Stand.of_body Bd
  have e0 : s₁.heap = h0 := by rw [← hh, Bd.state]; rfl
  have N0 := Fr.nil n0
  show own_Go p e below (own_R s below (Q_rmI122 Z a b kb q0 q1 cz h0 n0) ({ frames := 5, cells := 2, slots := 9, locals := 115 } : Room).cells ({ frames := 5, cells := 2, slots := 9, locals := 115 } : Room).slots) (s₁.setTop (entryFrame m #[(.ref a), (.ref b)] 2))
  refine own_bk (S' := (s₁.setTop (mkF m 0 #[rv a, rv b] []))) (fun t_ kont => castTop (ef_rmI122 m (a) (b)) kont) ?_
  refine own_bk (S' := (s₁.setTop (mkF m 1 #[rv a, rv b] [(.ref a)]))) (fun t_ kont => XS.aloadN X0.here hx rfl (hb hby d11_0) rfl rfl kont) ?_
  refine own_bk (S' := (s₁.setTop (mkF m 2 #[rv a, rv b] [(.ref b), (.ref a)]))) (fun t_ kont => XS.aloadN X0.here hx rfl (hb hby d11_1) rfl rfl kont) ?_
  refine own_bk (S' := (s₁.setTop (mkF m 3 #[rv a, rv b] [(.int (0 : Int32)), (.ref b), (.ref a)]))) (fun t_ kont => XS.iconst X0.here hx rfl (hb hby d11_2) kont) ?_
  refine own_bk (S' := (s₁.setTop (mkF m 4 #[rv a, rv b] [(.ref b), (.int (0 : Int32)), (.ref b), (.ref a)]))) (fun t_ kont => XS.aloadN X0.here hx rfl (hb hby d11_3) rfl rfl kont) ?_
  obtain ⟨c1, A2, q3, S4, M5, H6, U7⟩ := id VB
  refine own_bk (S' := (s₁.setTop (mkF m 5 #[rv a, rv b] [(.int c1.slots.size.toInt32), (.int (0 : Int32)), (.ref b), (.ref a)]))) (fun t_ kont => X0.arraylength hx (cell := c1) (by rw [show s₁.heap = h0 from e0]; exact A2.1) (State.isArrayOf_alike hZ.alike A2.2.1) (g := (mkF m 4 #[rv a, rv b] [(.ref b), (.int (0 : Int32)), (.ref b), (.ref a)])) rfl rfl (hb hby d11_4) _ kont) ?_
  rw [len_of S4 M5]
  refine own_bk (S' := (s₁.setTop (mkF m 6 #[rv a, rv b] [.null, (.int (2 : Int32)), (.int (0 : Int32)), (.ref b), (.ref a)]))) (fun t_ kont => XS.aconstNull X0.here hx rfl (hb hby d11_5) kont) ?_
  obtain ⟨_, _, ⟨T8, L9, k10, n11⟩, -, X12, ⟨Lc13, hQ14, l15, y16, z17⟩, st18⟩ := X0.specialBack hx (y := (⟨"java/lang/String", "<init>", "([CIILjava/lang/Void;)V"⟩ : MethodName)) rfl hown (mvT hZ (hw _ (List.mem_of_getElem? (i := 101) rfl))) (mvT hZ (hw _ (List.mem_of_getElem? (i := 102) rfl))) (mvT hZ (hw _ (List.mem_of_getElem? (i := 104) rfl))) (by decide) (backOf (W := 0) (rmI422 l Z a0 hw [] a b kb q0 q1 cz h0 n0 Z0 O SU VB E ag F0 F1 lq0 uq0 lq1 uq1 gq0 gq1) hZ (hw _ (List.mem_of_getElem? (i := 104) rfl)) (hw _ (List.mem_of_getElem? (i := 96) rfl)) (by decide) (by decide)) (g := (mkF m 6 #[rv a, rv b] [.null, (.int (2 : Int32)), (.int (0 : Int32)), (.ref b), (.ref a)])) rfl (by rw [hml]; rfl) (Steps.refl _) (a := a) (argsL := [(.ref b), (.int (0 : Int32)), (.int (2 : Int32)), .null]) (rest := []) (lenOf (by decide +kernel : parseMethodDescriptor "([CIILjava/lang/Void;)V" = some ⟨[(.array .char), .int, .int, (.object "java/lang/Void")], none⟩) rfl) rfl (by show 2 * 0 + _ ≤ _; exact Nat.le_of_eq rfl) (hb hby d11_6) (fun _ _ => ⟨rfl, e0, (by decide : 0 + 2 ≤ _), (by decide : 0 + 9 ≤ _)⟩)
  dsimp only [Pt.U, Pt.locs, Pt.cells, Pt.slots] at X12 l15 y16 z17 st18 hQ14
  subst l15 y16 z17
  obtain ⟨rfl, N19, O_, Z_, E_⟩ := hQ14
  have N21 := Fr.app N0 N19
  refine own_tr (S' := (T8.setTop (mkF m 9 #[rv a, rv b] []))) st18 ?_
  exact own_retV X12 hx hlk Bd.returns (hb hby d11_9) ⟨rfl, N21, O_, Z_, E_⟩ (by decide) (by decide)
theorem ef_rmI130 (m : MethodId) (x0 : Addr) (x1 : Addr) : entryFrame m #[(.ref x0), (.ref x1)] 2 = mkF m 0 #[.val (.ref x0), .val (.ref x1)] [] := by first | (simp [entryFrame, mkF, argsToLocals, Value.category, maxLocals]; done) | rfl
def Q_rmI130 (Z : State) (a b : Addr) (kb : ClassId) (q0 q1 q2 cz : Int32) (h0 : Heap) (n0 : Nat) (v : Option Value) (h : Heap) (L : List Loc) : Prop := v = none ∧ Fr n0 L ∧ Old Z n0 h ∧ n0 ≤ h.size ∧ Exa Z h a "java/lang/String"
set_option maxRecDepth 65536 in
set_option maxHeartbeats 40000000 in
theorem rmI130 (l : Launch) (Z : State) (a0 : Array Value) (hw : ∀ d ∈ tables_1, d.before a0 Z = true) (ws : List Jvm.Cond) (a b : Addr) (kb : ClassId) (q0 q1 q2 cz : Int32) (h0 : Heap) (n0 : Nat) (Z0 : n0 ≤ h0.size) (O : Old Z n0 h0) (SU : own_St Z cz) (VB : Arv Z h0 b kb .char (3 : Int32) [(.int q0), (.int q1), (.int q2)] (.int (0 : Int32))) (E : Exa Z h0 a "java/lang/String") (ag : n0 ≤ a) (F0 : Fld Z h0 a "java/lang/String" "value" "[B" .null) (F1 : Fld Z h0 a "java/lang/String" "coder" "B" (.int 0)) (lq0 : ¬ q0 < 0) (uq0 : ¬ (65535 : Int32) < q0) (lq1 : ¬ q1 < 0) (uq1 : ¬ (65535 : Int32) < q1) (lq2 : ¬ q2 < 0) (uq2 : ¬ (65535 : Int32) < q2)  (gq0 : (255 : Int32) < q0) :
    MetFree l (⟨"java/lang/String", "<init>", "([C)V"⟩ : MethodName) (head1 (Jvm.Cond.code (⟨"java/lang/String", "<init>", "([C)V"⟩ : MethodName) jdk_42_method_3_code 2 none :: ws) ({ frames := 5, cells := 2, slots := 9, locals := 115 } : Room)) (fun as_ U_ => as_ = #[(.ref a), (.ref b)] ∧ Z.Warmed39 U_.vm ∧ U_.heap = h0) (fun _ _ _ _ _ => True) (fun _ U_ o_ U2_ => ∃ v_ L_, o_ = .returned v_ ∧ (Q_rmI130 Z a b kb q0 q1 q2 cz h0 n0) v_ U2_.heap L_ ∧ FrameEnd U_ o_ U2_ L_ ({ frames := 5, cells := 2, slots := 9, locals := 115 } : Room).cells ({ frames := 5, cells := 2, slots := 9, locals := 115 } : Room).slots) := by
  refine MetFree.of_bodySF (plainFor_of_name (by first | (simp [plainName, overriddenIn]; done) | decide +kernel : plainName "java/lang/String" = true)) hisR ?_
  intro p e s m args below meth c s₁ Bd hml0 hP hK
  obtain ⟨rfl, hZ, hh⟩ := hP
  have hx := Bd.exec
  have hby := Bd.bytes
  have hlk := Bd.notSynchronized
  have hml : c.maxLocals = 2 := hml0
  have hown : s.vm.findClass "java/lang/String" = some m.cls := findClass_of_methodNamed Bd.named
  have hnm := (name_of_methodNamed Bd.named Bd.method).1
  have X0 : Stand p l e ({ frames := 5, cells := 2, slots := 9, locals := 115 } : Room) s m #[(.ref a), (.ref b)] below meth c s₁ [] 0 0 := Stand.of_body Bd
  have e0 : s₁.heap = h0 := by rw [← hh, Bd.state]; rfl
  have N0 := Fr.nil n0
  show own_Go p e below (own_R s below (Q_rmI130 Z a b kb q0 q1 q2 cz h0 n0) ({ frames := 5, cells := 2, slots := 9, locals := 115 } : Room).cells ({ frames := 5, cells := 2, slots := 9, locals := 115 } : Room).slots) (s₁.setTop (entryFrame m #[(.ref a), (.ref b)] 2))
  refine own_bk (S' := (s₁.setTop (mkF m 0 #[rv a, rv b] []))) (fun t_ kont => castTop (ef_rmI130 m (a) (b)) kont) ?_
  refine own_bk (S' := (s₁.setTop (mkF m 1 #[rv a, rv b] [(.ref a)]))) (fun t_ kont => XS.aloadN X0.here hx rfl (hb hby d11_0) rfl rfl kont) ?_
  refine own_bk (S' := (s₁.setTop (mkF m 2 #[rv a, rv b] [(.ref b), (.ref a)]))) (fun t_ kont => XS.aloadN X0.here hx rfl (hb hby d11_1) rfl rfl kont) ?_
  refine own_bk (S' := (s₁.setTop (mkF m 3 #[rv a, rv b] [(.int (0 : Int32)), (.ref b), (.ref a)]))) (fun t_ kont => XS.iconst X0.here hx rfl (hb hby d11_2) kont) ?_
  refine own_bk (S' := (s₁.setTop (mkF m 4 #[rv a, rv b] [(.ref b), (.int (0 : Int32)), (.ref b), (.ref a)]))) (fun t_ kont => XS.aloadN X0.here hx rfl (hb hby d11_3) rfl rfl kont) ?_
  obtain ⟨c1, A2, q3, S4, M5, H6, U7⟩ := id VB
  refine own_bk (S' := (s₁.setTop (mkF m 5 #[rv a, rv b] [(.int c1.slots.size.toInt32), (.int (0 : Int32)), (.ref b), (.ref a)]))) (fun t_ kont => X0.arraylength hx (cell := c1) (by rw [show s₁.heap = h0 from e0]; exact A2.1) (State.isArrayOf_alike hZ.alike A2.2.1) (g := (mkF m 4 #[rv a, rv b] [(.ref b), (.int (0 : Int32)), (.ref b), (.ref a)])) rfl rfl (hb hby d11_4) _ kont) ?_
  rw [len_of S4 M5]
  refine own_bk (S' := (s₁.setTop (mkF m 6 #[rv a, rv b] [.null, (.int (3 : Int32)), (.int (0 : Int32)), (.ref b), (.ref a)]))) (fun t_ kont => XS.aconstNull X0.here hx rfl (hb hby d11_5) kont) ?_
  obtain ⟨_, _, ⟨T8, L9, k10, n11⟩, -, X12, ⟨Lc13, hQ14, l15, y16, z17⟩, st18⟩ := X0.specialBack hx (y := (⟨"java/lang/String", "<init>", "([CIILjava/lang/Void;)V"⟩ : MethodName)) rfl hown (mvT hZ (hw _ (List.mem_of_getElem? (i := 101) rfl))) (mvT hZ (hw _ (List.mem_of_getElem? (i := 102) rfl))) (mvT hZ (hw _ (List.mem_of_getElem? (i := 104) rfl))) (by decide) (backOf (W := 0) (rmI430 l Z a0 hw [] a b kb q0 q1 q2 cz h0 n0 Z0 O SU VB E ag F0 F1 lq0 uq0 lq1 uq1 lq2 uq2 gq0) hZ (hw _ (List.mem_of_getElem? (i := 104) rfl)) (hw _ (List.mem_of_getElem? (i := 96) rfl)) (by decide) (by decide)) (g := (mkF m 6 #[rv a, rv b] [.null, (.int (3 : Int32)), (.int (0 : Int32)), (.ref b), (.ref a)])) rfl (by rw [hml]; rfl) (Steps.refl _) (a := a) (argsL := [(.ref b), (.int (0 : Int32)), (.int (3 : Int32)), .null]) (rest := []) (lenOf (by decide +kernel : parseMethodDescriptor "([CIILjava/lang/Void;)V" = some ⟨[(.array .char), .int, .int, (.object "java/lang/Void")], none⟩) rfl) rfl (by show 2 * 0 + _ ≤ _; exact Nat.le_of_eq rfl) (hb hby d11_6) (fun _ _ => ⟨rfl, e0, (by decide : 0 + 2 ≤ _), (by decide : 0 + 9 ≤ _)⟩)
  dsimp only [Pt.U, Pt.locs, Pt.cells, Pt.slots] at X12 l15 y16 z17 st18 hQ14
  subst l15 y16 z17
  obtain ⟨rfl, N19, O_, Z_, E_⟩ := hQ14
  have N21 := Fr.app N0 N19
  refine own_tr (S' := (T8.setTop (mkF m 9 #[rv a, rv b] []))) st18 ?_
  exact own_retV X12 hx hlk Bd.returns (hb hby d11_9) ⟨rfl, N21, O_, Z_, E_⟩ (by decide) (by decide)
theorem ef_rmI131 (m : MethodId) (x0 : Addr) (x1 : Addr) : entryFrame m #[(.ref x0), (.ref x1)] 2 = mkF m 0 #[.val (.ref x0), .val (.ref x1)] [] := by first | (simp [entryFrame, mkF, argsToLocals, Value.category, maxLocals]; done) | rfl
def Q_rmI131 (Z : State) (a b : Addr) (kb : ClassId) (q0 q1 q2 cz : Int32) (h0 : Heap) (n0 : Nat) (v : Option Value) (h : Heap) (L : List Loc) : Prop := v = none ∧ Fr n0 L ∧ Old Z n0 h ∧ n0 ≤ h.size ∧ Exa Z h a "java/lang/String"
set_option maxRecDepth 65536 in
set_option maxHeartbeats 40000000 in
theorem rmI131 (l : Launch) (Z : State) (a0 : Array Value) (hw : ∀ d ∈ tables_1, d.before a0 Z = true) (ws : List Jvm.Cond) (a b : Addr) (kb : ClassId) (q0 q1 q2 cz : Int32) (h0 : Heap) (n0 : Nat) (Z0 : n0 ≤ h0.size) (O : Old Z n0 h0) (SU : own_St Z cz) (VB : Arv Z h0 b kb .char (3 : Int32) [(.int q0), (.int q1), (.int q2)] (.int (0 : Int32))) (E : Exa Z h0 a "java/lang/String") (ag : n0 ≤ a) (F0 : Fld Z h0 a "java/lang/String" "value" "[B" .null) (F1 : Fld Z h0 a "java/lang/String" "coder" "B" (.int 0)) (lq0 : ¬ q0 < 0) (uq0 : ¬ (65535 : Int32) < q0) (lq1 : ¬ q1 < 0) (uq1 : ¬ (65535 : Int32) < q1) (lq2 : ¬ q2 < 0) (uq2 : ¬ (65535 : Int32) < q2) (gq0 : ¬ (255 : Int32) < q0) (gq1 : (255 : Int32) < q1) :
    MetFree l (⟨"java/lang/String", "<init>", "([C)V"⟩ : MethodName) (head1 (Jvm.Cond.code (⟨"java/lang/String", "<init>", "([C)V"⟩ : MethodName) jdk_42_method_3_code 2 none :: ws) ({ frames := 5, cells := 2, slots := 9, locals := 115 } : Room)) (fun as_ U_ => as_ = #[(.ref a), (.ref b)] ∧ Z.Warmed39 U_.vm ∧ U_.heap = h0) (fun _ _ _ _ _ => True) (fun _ U_ o_ U2_ => ∃ v_ L_, o_ = .returned v_ ∧ (Q_rmI131 Z a b kb q0 q1 q2 cz h0 n0) v_ U2_.heap L_ ∧ FrameEnd U_ o_ U2_ L_ ({ frames := 5, cells := 2, slots := 9, locals := 115 } : Room).cells ({ frames := 5, cells := 2, slots := 9, locals := 115 } : Room).slots) := by
  refine MetFree.of_bodySF (plainFor_of_name (by first | (simp [plainName, overriddenIn]; done) | decide +kernel : plainName "java/lang/String" = true)) hisR ?_
  intro p e s m args below meth c s₁ Bd hml0 hP hK
  obtain ⟨rfl, hZ, hh⟩ := hP
  have hx := Bd.exec
  have hby := Bd.bytes
  have hlk := Bd.notSynchronized
  have hml : c.maxLocals = 2 := hml0
  have hown : s.vm.findClass "java/lang/String" = some m.cls := findClass_of_methodNamed Bd.named
  have hnm := (name_of_methodNamed Bd.named Bd.method).1
  have X0 : Stand p l e ({ frames := 5, cells := 2, slots := 9, locals := 115 } : Room) s m #[(.ref a), (.ref b)] below meth c s₁ [] 0 0 := Stand.of_body Bd
  have e0 : s₁.heap = h0 := by rw [← hh, Bd.state]; rfl
  have N0 := Fr.nil n0
  show own_Go p e below (own_R s below (Q_rmI131 Z a b kb q0 q1 q2 cz h0 n0) ({ frames := 5, cells := 2, slots := 9, locals := 115 } : Room).cells ({ frames := 5, cells := 2, slots := 9, locals := 115 } : Room).slots) (s₁.setTop (entryFrame m #[(.ref a), (.ref b)] 2))
  refine own_bk (S' := (s₁.setTop (mkF m 0 #[rv a, rv b] []))) (fun t_ kont => castTop (ef_rmI131 m (a) (b)) kont) ?_
  refine own_bk (S' := (s₁.setTop (mkF m 1 #[rv a, rv b] [(.ref a)]))) (fun t_ kont => XS.aloadN X0.here hx rfl (hb hby d11_0) rfl rfl kont) ?_
  refine own_bk (S' := (s₁.setTop (mkF m 2 #[rv a, rv b] [(.ref b), (.ref a)]))) (fun t_ kont => XS.aloadN X0.here hx rfl (hb hby d11_1) rfl rfl kont) ?_
  refine own_bk (S' := (s₁.setTop (mkF m 3 #[rv a, rv b] [(.int (0 : Int32)), (.ref b), (.ref a)]))) (fun t_ kont => XS.iconst X0.here hx rfl (hb hby d11_2) kont) ?_
  refine own_bk (S' := (s₁.setTop (mkF m 4 #[rv a, rv b] [(.ref b), (.int (0 : Int32)), (.ref b), (.ref a)]))) (fun t_ kont => XS.aloadN X0.here hx rfl (hb hby d11_3) rfl rfl kont) ?_
  obtain ⟨c1, A2, q3, S4, M5, H6, U7⟩ := id VB
  refine own_bk (S' := (s₁.setTop (mkF m 5 #[rv a, rv b] [(.int c1.slots.size.toInt32), (.int (0 : Int32)), (.ref b), (.ref a)]))) (fun t_ kont => X0.arraylength hx (cell := c1) (by rw [show s₁.heap = h0 from e0]; exact A2.1) (State.isArrayOf_alike hZ.alike A2.2.1) (g := (mkF m 4 #[rv a, rv b] [(.ref b), (.int (0 : Int32)), (.ref b), (.ref a)])) rfl rfl (hb hby d11_4) _ kont) ?_
  rw [len_of S4 M5]
  refine own_bk (S' := (s₁.setTop (mkF m 6 #[rv a, rv b] [.null, (.int (3 : Int32)), (.int (0 : Int32)), (.ref b), (.ref a)]))) (fun t_ kont => XS.aconstNull X0.here hx rfl (hb hby d11_5) kont) ?_
  obtain ⟨_, _, ⟨T8, L9, k10, n11⟩, -, X12, ⟨Lc13, hQ14, l15, y16, z17⟩, st18⟩ := X0.specialBack hx (y := (⟨"java/lang/String", "<init>", "([CIILjava/lang/Void;)V"⟩ : MethodName)) rfl hown (mvT hZ (hw _ (List.mem_of_getElem? (i := 101) rfl))) (mvT hZ (hw _ (List.mem_of_getElem? (i := 102) rfl))) (mvT hZ (hw _ (List.mem_of_getElem? (i := 104) rfl))) (by decide) (backOf (W := 0) (rmI431 l Z a0 hw [] a b kb q0 q1 q2 cz h0 n0 Z0 O SU VB E ag F0 F1 lq0 uq0 lq1 uq1 lq2 uq2 gq0 gq1) hZ (hw _ (List.mem_of_getElem? (i := 104) rfl)) (hw _ (List.mem_of_getElem? (i := 96) rfl)) (by decide) (by decide)) (g := (mkF m 6 #[rv a, rv b] [.null, (.int (3 : Int32)), (.int (0 : Int32)), (.ref b), (.ref a)])) rfl (by rw [hml]; rfl) (Steps.refl _) (a := a) (argsL := [(.ref b), (.int (0 : Int32)), (.int (3 : Int32)), .null]) (rest := []) (lenOf (by decide +kernel : parseMethodDescriptor "([CIILjava/lang/Void;)V" = some ⟨[(.array .char), .int, .int, (.object "java/lang/Void")], none⟩) rfl) rfl (by show 2 * 0 + _ ≤ _; exact Nat.le_of_eq rfl) (hb hby d11_6) (fun _ _ => ⟨rfl, e0, (by decide : 0 + 2 ≤ _), (by decide : 0 + 9 ≤ _)⟩)
  dsimp only [Pt.U, Pt.locs, Pt.cells, Pt.slots] at X12 l15 y16 z17 st18 hQ14
  subst l15 y16 z17
  obtain ⟨rfl, N19, O_, Z_, E_⟩ := hQ14
  have N21 := Fr.app N0 N19
  refine own_tr (S' := (T8.setTop (mkF m 9 #[rv a, rv b] []))) st18 ?_
  exact own_retV X12 hx hlk Bd.returns (hb hby d11_9) ⟨rfl, N21, O_, Z_, E_⟩ (by decide) (by decide)
theorem ef_rmI132 (m : MethodId) (x0 : Addr) (x1 : Addr) : entryFrame m #[(.ref x0), (.ref x1)] 2 = mkF m 0 #[.val (.ref x0), .val (.ref x1)] [] := by first | (simp [entryFrame, mkF, argsToLocals, Value.category, maxLocals]; done) | rfl
def Q_rmI132 (Z : State) (a b : Addr) (kb : ClassId) (q0 q1 q2 cz : Int32) (h0 : Heap) (n0 : Nat) (v : Option Value) (h : Heap) (L : List Loc) : Prop := v = none ∧ Fr n0 L ∧ Old Z n0 h ∧ n0 ≤ h.size ∧ Exa Z h a "java/lang/String"
set_option maxRecDepth 65536 in
set_option maxHeartbeats 40000000 in
theorem rmI132 (l : Launch) (Z : State) (a0 : Array Value) (hw : ∀ d ∈ tables_1, d.before a0 Z = true) (ws : List Jvm.Cond) (a b : Addr) (kb : ClassId) (q0 q1 q2 cz : Int32) (h0 : Heap) (n0 : Nat) (Z0 : n0 ≤ h0.size) (O : Old Z n0 h0) (SU : own_St Z cz) (VB : Arv Z h0 b kb .char (3 : Int32) [(.int q0), (.int q1), (.int q2)] (.int (0 : Int32))) (E : Exa Z h0 a "java/lang/String") (ag : n0 ≤ a) (F0 : Fld Z h0 a "java/lang/String" "value" "[B" .null) (F1 : Fld Z h0 a "java/lang/String" "coder" "B" (.int 0)) (lq0 : ¬ q0 < 0) (uq0 : ¬ (65535 : Int32) < q0) (lq1 : ¬ q1 < 0) (uq1 : ¬ (65535 : Int32) < q1) (lq2 : ¬ q2 < 0) (uq2 : ¬ (65535 : Int32) < q2) (gq0 : ¬ (255 : Int32) < q0) (gq1 : ¬ (255 : Int32) < q1) (gq2 : (255 : Int32) < q2) :
    MetFree l (⟨"java/lang/String", "<init>", "([C)V"⟩ : MethodName) (head1 (Jvm.Cond.code (⟨"java/lang/String", "<init>", "([C)V"⟩ : MethodName) jdk_42_method_3_code 2 none :: ws) ({ frames := 5, cells := 2, slots := 9, locals := 115 } : Room)) (fun as_ U_ => as_ = #[(.ref a), (.ref b)] ∧ Z.Warmed39 U_.vm ∧ U_.heap = h0) (fun _ _ _ _ _ => True) (fun _ U_ o_ U2_ => ∃ v_ L_, o_ = .returned v_ ∧ (Q_rmI132 Z a b kb q0 q1 q2 cz h0 n0) v_ U2_.heap L_ ∧ FrameEnd U_ o_ U2_ L_ ({ frames := 5, cells := 2, slots := 9, locals := 115 } : Room).cells ({ frames := 5, cells := 2, slots := 9, locals := 115 } : Room).slots) := by
  refine MetFree.of_bodySF (plainFor_of_name (by first | (simp [plainName, overriddenIn]; done) | decide +kernel : plainName "java/lang/String" = true)) hisR ?_
  intro p e s m args below meth c s₁ Bd hml0 hP hK
  obtain ⟨rfl, hZ, hh⟩ := hP
  have hx := Bd.exec
  have hby := Bd.bytes
  have hlk := Bd.notSynchronized
  have hml : c.maxLocals = 2 := hml0
  have hown : s.vm.findClass "java/lang/String" = some m.cls := findClass_of_methodNamed Bd.named
  have hnm := (name_of_methodNamed Bd.named Bd.method).1
  have X0 : Stand p l e ({ frames := 5, cells := 2, slots := 9, locals := 115 } : Room) s m #[(.ref a), (.ref b)] below meth c s₁ [] 0 0 := Stand.of_body Bd
  have e0 : s₁.heap = h0 := by rw [← hh, Bd.state]; rfl
  have N0 := Fr.nil n0
  show own_Go p e below (own_R s below (Q_rmI132 Z a b kb q0 q1 q2 cz h0 n0) ({ frames := 5, cells := 2, slots := 9, locals := 115 } : Room).cells ({ frames := 5, cells := 2, slots := 9, locals := 115 } : Room).slots) (s₁.setTop (entryFrame m #[(.ref a), (.ref b)] 2))
  refine own_bk (S' := (s₁.setTop (mkF m 0 #[rv a, rv b] []))) (fun t_ kont => castTop (ef_rmI132 m (a) (b)) kont) ?_
  refine own_bk (S' := (s₁.setTop (mkF m 1 #[rv a, rv b] [(.ref a)]))) (fun t_ kont => XS.aloadN X0.here hx rfl (hb hby d11_0) rfl rfl kont) ?_
  refine own_bk (S' := (s₁.setTop (mkF m 2 #[rv a, rv b] [(.ref b), (.ref a)]))) (fun t_ kont => XS.aloadN X0.here hx rfl (hb hby d11_1) rfl rfl kont) ?_
  refine own_bk (S' := (s₁.setTop (mkF m 3 #[rv a, rv b] [(.int (0 : Int32)), (.ref b), (.ref a)]))) (fun t_ kont => XS.iconst X0.here hx rfl (hb hby d11_2) kont) ?_
  refine own_bk (S' := (s₁.setTop (mkF m 4 #[rv a, rv b] [(.ref b), (.int (0 : Int32)), (.ref b), (.ref a)]))) (fun t_ kont => XS.aloadN X0.here hx rfl (hb hby d11_3) rfl rfl kont) ?_
  obtain ⟨c1, A2, q3, S4, M5, H6, U7⟩ := id VB
  refine own_bk (S' := (s₁.setTop (mkF m 5 #[rv a, rv b] [(.int c1.slots.size.toInt32), (.int (0 : Int32)), (.ref b), (.ref a)]))) (fun t_ kont => X0.arraylength hx (cell := c1) (by rw [show s₁.heap = h0 from e0]; exact A2.1) (State.isArrayOf_alike hZ.alike A2.2.1) (g := (mkF m 4 #[rv a, rv b] [(.ref b), (.int (0 : Int32)), (.ref b), (.ref a)])) rfl rfl (hb hby d11_4) _ kont) ?_
  rw [len_of S4 M5]
  refine own_bk (S' := (s₁.setTop (mkF m 6 #[rv a, rv b] [.null, (.int (3 : Int32)), (.int (0 : Int32)), (.ref b), (.ref a)]))) (fun t_ kont => XS.aconstNull X0.here hx rfl (hb hby d11_5) kont) ?_
  obtain ⟨_, _, ⟨T8, L9, k10, n11⟩, -, X12, ⟨Lc13, hQ14, l15, y16, z17⟩, st18⟩ := X0.specialBack hx (y := (⟨"java/lang/String", "<init>", "([CIILjava/lang/Void;)V"⟩ : MethodName)) rfl hown (mvT hZ (hw _ (List.mem_of_getElem? (i := 101) rfl))) (mvT hZ (hw _ (List.mem_of_getElem? (i := 102) rfl))) (mvT hZ (hw _ (List.mem_of_getElem? (i := 104) rfl))) (by decide) (backOf (W := 0) (rmI432 l Z a0 hw [] a b kb q0 q1 q2 cz h0 n0 Z0 O SU VB E ag F0 F1 lq0 uq0 lq1 uq1 lq2 uq2 gq0 gq1 gq2) hZ (hw _ (List.mem_of_getElem? (i := 104) rfl)) (hw _ (List.mem_of_getElem? (i := 96) rfl)) (by decide) (by decide)) (g := (mkF m 6 #[rv a, rv b] [.null, (.int (3 : Int32)), (.int (0 : Int32)), (.ref b), (.ref a)])) rfl (by rw [hml]; rfl) (Steps.refl _) (a := a) (argsL := [(.ref b), (.int (0 : Int32)), (.int (3 : Int32)), .null]) (rest := []) (lenOf (by decide +kernel : parseMethodDescriptor "([CIILjava/lang/Void;)V" = some ⟨[(.array .char), .int, .int, (.object "java/lang/Void")], none⟩) rfl) rfl (by show 2 * 0 + _ ≤ _; exact Nat.le_of_eq rfl) (hb hby d11_6) (fun _ _ => ⟨rfl, e0, (by decide : 0 + 2 ≤ _), (by decide : 0 + 9 ≤ _)⟩)
  dsimp only [Pt.U, Pt.locs, Pt.cells, Pt.slots] at X12 l15 y16 z17 st18 hQ14
  subst l15 y16 z17
  obtain ⟨rfl, N19, O_, Z_, E_⟩ := hQ14
  have N21 := Fr.app N0 N19
  refine own_tr (S' := (T8.setTop (mkF m 9 #[rv a, rv b] []))) st18 ?_
  exact own_retV X12 hx hlk Bd.returns (hb hby d11_9) ⟨rfl, N21, O_, Z_, E_⟩ (by decide) (by decide)
theorem ef_rmI133 (m : MethodId) (x0 : Addr) (x1 : Addr) : entryFrame m #[(.ref x0), (.ref x1)] 2 = mkF m 0 #[.val (.ref x0), .val (.ref x1)] [] := by first | (simp [entryFrame, mkF, argsToLocals, Value.category, maxLocals]; done) | rfl
def Q_rmI133 (Z : State) (a b : Addr) (kb : ClassId) (q0 q1 q2 cz : Int32) (h0 : Heap) (n0 : Nat) (v : Option Value) (h : Heap) (L : List Loc) : Prop := v = none ∧ Fr n0 L ∧ Old Z n0 h ∧ n0 ≤ h.size ∧ Exa Z h a "java/lang/String"
set_option maxRecDepth 65536 in
set_option maxHeartbeats 40000000 in
theorem rmI133 (l : Launch) (Z : State) (a0 : Array Value) (hw : ∀ d ∈ tables_1, d.before a0 Z = true) (ws : List Jvm.Cond) (a b : Addr) (kb : ClassId) (q0 q1 q2 cz : Int32) (h0 : Heap) (n0 : Nat) (Z0 : n0 ≤ h0.size) (O : Old Z n0 h0) (SU : own_St Z cz) (VB : Arv Z h0 b kb .char (3 : Int32) [(.int q0), (.int q1), (.int q2)] (.int (0 : Int32))) (E : Exa Z h0 a "java/lang/String") (ag : n0 ≤ a) (F0 : Fld Z h0 a "java/lang/String" "value" "[B" .null) (F1 : Fld Z h0 a "java/lang/String" "coder" "B" (.int 0)) (lq0 : ¬ q0 < 0) (uq0 : ¬ (65535 : Int32) < q0) (lq1 : ¬ q1 < 0) (uq1 : ¬ (65535 : Int32) < q1) (lq2 : ¬ q2 < 0) (uq2 : ¬ (65535 : Int32) < q2) (gq0 : ¬ (255 : Int32) < q0) (gq1 : ¬ (255 : Int32) < q1) (gq2 : ¬ (255 : Int32) < q2) :
    MetFree l (⟨"java/lang/String", "<init>", "([C)V"⟩ : MethodName) (head1 (Jvm.Cond.code (⟨"java/lang/String", "<init>", "([C)V"⟩ : MethodName) jdk_42_method_3_code 2 none :: ws) ({ frames := 5, cells := 2, slots := 9, locals := 115 } : Room)) (fun as_ U_ => as_ = #[(.ref a), (.ref b)] ∧ Z.Warmed39 U_.vm ∧ U_.heap = h0) (fun _ _ _ _ _ => True) (fun _ U_ o_ U2_ => ∃ v_ L_, o_ = .returned v_ ∧ (Q_rmI133 Z a b kb q0 q1 q2 cz h0 n0) v_ U2_.heap L_ ∧ FrameEnd U_ o_ U2_ L_ ({ frames := 5, cells := 2, slots := 9, locals := 115 } : Room).cells ({ frames := 5, cells := 2, slots := 9, locals := 115 } : Room).slots) := by
  refine MetFree.of_bodySF (plainFor_of_name (by first | (simp [plainName, overriddenIn]; done) | decide +kernel : plainName "java/lang/String" = true)) hisR ?_
  intro p e s m args below meth c s₁ Bd hml0 hP hK
  obtain ⟨rfl, hZ, hh⟩ := hP
  have hx := Bd.exec
  have hby := Bd.bytes
  have hlk := Bd.notSynchronized
  have hml : c.maxLocals = 2 := hml0
  have hown : s.vm.findClass "java/lang/String" = some m.cls := findClass_of_methodNamed Bd.named
  have hnm := (name_of_methodNamed Bd.named Bd.method).1
  have X0 : Stand p l e ({ frames := 5, cells := 2, slots := 9, locals := 115 } : Room) s m #[(.ref a), (.ref b)] below meth c s₁ [] 0 0 := Stand.of_body Bd
  have e0 : s₁.heap = h0 := by rw [← hh, Bd.state]; rfl
  have N0 := Fr.nil n0
  show own_Go p e below (own_R s below (Q_rmI133 Z a b kb q0 q1 q2 cz h0 n0) ({ frames := 5, cells := 2, slots := 9, locals := 115 } : Room).cells ({ frames := 5, cells := 2, slots := 9, locals := 115 } : Room).slots) (s₁.setTop (entryFrame m #[(.ref a), (.ref b)] 2))
  refine own_bk (S' := (s₁.setTop (mkF m 0 #[rv a, rv b] []))) (fun t_ kont => castTop (ef_rmI133 m (a) (b)) kont) ?_
  refine own_bk (S' := (s₁.setTop (mkF m 1 #[rv a, rv b] [(.ref a)]))) (fun t_ kont => XS.aloadN X0.here hx rfl (hb hby d11_0) rfl rfl kont) ?_
  refine own_bk (S' := (s₁.setTop (mkF m 2 #[rv a, rv b] [(.ref b), (.ref a)]))) (fun t_ kont => XS.aloadN X0.here hx rfl (hb hby d11_1) rfl rfl kont) ?_
  refine own_bk (S' := (s₁.setTop (mkF m 3 #[rv a, rv b] [(.int (0 : Int32)), (.ref b), (.ref a)]))) (fun t_ kont => XS.iconst X0.here hx rfl (hb hby d11_2) kont) ?_
  refine own_bk (S' := (s₁.setTop (mkF m 4 #[rv a, rv b] [(.ref b), (.int (0 : Int32)), (.ref b), (.ref a)]))) (fun t_ kont => XS.aloadN X0.here hx rfl (hb hby d11_3) rfl rfl kont) ?_
  obtain ⟨c1, A2, q3, S4, M5, H6, U7⟩ := id VB
  refine own_bk (S' := (s₁.setTop (mkF m 5 #[rv a, rv b] [(.int c1.slots.size.toInt32), (.int (0 : Int32)), (.ref b), (.ref a)]))) (fun t_ kont => X0.arraylength hx (cell := c1) (by rw [show s₁.heap = h0 from e0]; exact A2.1) (State.isArrayOf_alike hZ.alike A2.2.1) (g := (mkF m 4 #[rv a, rv b] [(.ref b), (.int (0 : Int32)), (.ref b), (.ref a)])) rfl rfl (hb hby d11_4) _ kont) ?_
  rw [len_of S4 M5]
  refine own_bk (S' := (s₁.setTop (mkF m 6 #[rv a, rv b] [.null, (.int (3 : Int32)), (.int (0 : Int32)), (.ref b), (.ref a)]))) (fun t_ kont => XS.aconstNull X0.here hx rfl (hb hby d11_5) kont) ?_
  obtain ⟨_, _, ⟨T8, L9, k10, n11⟩, -, X12, ⟨Lc13, hQ14, l15, y16, z17⟩, st18⟩ := X0.specialBack hx (y := (⟨"java/lang/String", "<init>", "([CIILjava/lang/Void;)V"⟩ : MethodName)) rfl hown (mvT hZ (hw _ (List.mem_of_getElem? (i := 101) rfl))) (mvT hZ (hw _ (List.mem_of_getElem? (i := 102) rfl))) (mvT hZ (hw _ (List.mem_of_getElem? (i := 104) rfl))) (by decide) (backOf (W := 0) (rmI433 l Z a0 hw [] a b kb q0 q1 q2 cz h0 n0 Z0 O SU VB E ag F0 F1 lq0 uq0 lq1 uq1 lq2 uq2 gq0 gq1 gq2) hZ (hw _ (List.mem_of_getElem? (i := 104) rfl)) (hw _ (List.mem_of_getElem? (i := 96) rfl)) (by decide) (by decide)) (g := (mkF m 6 #[rv a, rv b] [.null, (.int (3 : Int32)), (.int (0 : Int32)), (.ref b), (.ref a)])) rfl (by rw [hml]; rfl) (Steps.refl _) (a := a) (argsL := [(.ref b), (.int (0 : Int32)), (.int (3 : Int32)), .null]) (rest := []) (lenOf (by decide +kernel : parseMethodDescriptor "([CIILjava/lang/Void;)V" = some ⟨[(.array .char), .int, .int, (.object "java/lang/Void")], none⟩) rfl) rfl (by show 2 * 0 + _ ≤ _; exact Nat.le_of_eq rfl) (hb hby d11_6) (fun _ _ => ⟨rfl, e0, (by decide : 0 + 2 ≤ _), (by decide : 0 + 9 ≤ _)⟩)
  dsimp only [Pt.U, Pt.locs, Pt.cells, Pt.slots] at X12 l15 y16 z17 st18 hQ14
  subst l15 y16 z17
  obtain ⟨rfl, N19, O_, Z_, E_⟩ := hQ14
  have N21 := Fr.app N0 N19
  refine own_tr (S' := (T8.setTop (mkF m 9 #[rv a, rv b] []))) st18 ?_
  exact own_retV X12 hx hlk Bd.returns (hb hby d11_9) ⟨rfl, N21, O_, Z_, E_⟩ (by decide) (by decide)
theorem ef_rmI4e (m : MethodId) (x0 : Addr) (x1 : Addr) (x2 : Int32) (x3 : Int32) : entryFrame m #[(.ref x0), (.ref x1), (.int x2), (.int x3), .null] 6 = mkF m 0 #[.val (.ref x0), .val (.ref x1), .val (.int x2), .val (.int x3), .val .null, .unset] [] := by first | (simp [entryFrame, mkF, argsToLocals, Value.category, maxLocals]; done) | rfl
def Q_rmI4e (Z : State) (a b : Addr) (h0 : Heap) (n0 : Nat) (v : Option Value) (h : Heap) (L : List Loc) : Prop := v = none ∧ Fr n0 L ∧ Old Z n0 h ∧ n0 ≤ h.size ∧ Exa Z h a "java/lang/String"
set_option maxRecDepth 65536 in
set_option maxHeartbeats 40000000 in
theorem rmI4e (l : Launch) (Z : State) (a0 : Array Value) (hw : ∀ d ∈ tables_1, d.before a0 Z = true) (ws : List Jvm.Cond) (a b : Addr) (h0 : Heap) (n0 : Nat) (Z0 : n0 ≤ h0.size) (O : Old Z n0 h0) (E : Exa Z h0 a "java/lang/String") (ag : n0 ≤ a) (F0 : Fld Z h0 a "java/lang/String" "value" "[B" .null) (F1 : Fld Z h0 a "java/lang/String" "coder" "B" (.int 0)) :
    MetFree l (⟨"java/lang/String", "<init>", "([CIILjava/lang/Void;)V"⟩ : MethodName) (head1 (Jvm.Cond.code (⟨"java/lang/String", "<init>", "([CIILjava/lang/Void;)V"⟩ : MethodName) jdk_42_method_149_code 6 none :: ws) ({ frames := 1, cells := 2, slots := 4, locals := 12 } : Room)) (fun as_ U_ => as_ = #[(.ref a), (.ref b), (.int (0 : Int32)), (.int (0 : Int32)), .null] ∧ Z.Warmed39 U_.vm ∧ U_.heap = h0 ∧ CHv Z own_EL U_.vm h0) (fun _ _ _ _ _ => True) (fun _ U_ o_ U2_ => ∃ v_ L_, o_ = .returned v_ ∧ (Q_rmI4e Z a b h0 n0) v_ U2_.heap L_ ∧ ReturnedEndW U_ o_ U2_ L_ ({ frames := 1, cells := 2, slots := 4, locals := 12 } : Room).cells ({ frames := 1, cells := 2, slots := 4, locals := 12 } : Room).slots) := by
  refine MetFree.of_bodySF (plainFor_of_name (by first | (simp [plainName, overriddenIn]; done) | decide +kernel : plainName "java/lang/String" = true)) hisR ?_
  intro p e s m args below meth c s₁ Bd hml0 hP hK
  obtain ⟨rfl, hZ, hh, hCH⟩ := hP
  have hEL : EW Z a0 own_EL := EW.cons (hw _ (List.mem_of_getElem? (i := 106) rfl)) (by decide) EW.nil
  have hx := Bd.exec
  have hby := Bd.bytes
  have hlk := Bd.notSynchronized
  have hml : c.maxLocals = 6 := hml0
  have hown : s.vm.findClass "java/lang/String" = some m.cls := findClass_of_methodNamed Bd.named
  have hnm := (name_of_methodNamed Bd.named Bd.method).1
  have X0 : Stand p l e ({ frames := 1, cells := 2, slots := 4, locals := 12 } : Room) (s.setVm s.vm) m #[(.ref a), (.ref b), (.int (0 : Int32)), (.int (0 : Int32)), .null] below meth c s₁ [] 0 0 := Stand.of_body Bd
  have hS : s.Since s.vm 0 := (State.WarmedH.refl s).since 0
  have hk0 : 0 ≤ h0.size := Nat.zero_le _
  have hwS : ∀ d ∈ Bundle.stringAtoms, d.before a0 Z = true := fun d hd => hw d ((by decide +kernel : ∀ d ∈ Bundle.stringAtoms, d ∈ tables_1) d hd)
  have e0 : s₁.heap = h0 := by rw [← hh, Bd.state]; rfl
  have N0 := Fr.nil n0
  show own_Go p e below (own_RW s below (Q_rmI4e Z a b h0 n0) ({ frames := 1, cells := 2, slots := 4, locals := 12 } : Room).cells ({ frames := 1, cells := 2, slots := 4, locals := 12 } : Room).slots) (s₁.setTop (entryFrame m #[(.ref a), (.ref b), (.int (0 : Int32)), (.int (0 : Int32)), .null] 6))
  refine own_bk (S' := (s₁.setTop (mkF m 0 #[rv a, rv b, iv (0 : Int32), iv (0 : Int32), .val .null, .unset] []))) (fun t_ kont => castTop (ef_rmI4e m (a) (b) ((0 : Int32)) ((0 : Int32))) kont) ?_
  refine own_bk (S' := (s₁.setTop (mkF m 1 #[rv a, rv b, iv (0 : Int32), iv (0 : Int32), .val .null, .unset] [(.ref a)]))) (fun t_ kont => XS.aloadN X0.here hx rfl (hb hby d12_0) rfl rfl kont) ?_
  obtain ⟨T1, X2, e3, st4⟩ := initO X0 hx hZ hown (hw _ (List.mem_of_getElem? (i := 105) rfl)) (hw _ (List.mem_of_getElem? (i := 24) rfl)) (hw _ (List.mem_of_getElem? (i := 25) rfl)) e0 (g := (mkF m 1 #[rv a, rv b, iv (0 : Int32), iv (0 : Int32), .val .null, .unset] [(.ref a)])) rfl (by rw [hml]; rfl) rfl (hb hby d12_1) (by decide) (W := 0) (by show 2 * 0 + _ ≤ _; exact Nat.le_of_eq rfl) (by decide)
  refine own_bk (S' := (T1.setTop (mkF m 4 #[rv a, rv b, iv (0 : Int32), iv (0 : Int32), .val .null, .unset] []))) st4 ?_
  refine own_bk (S' := (T1.setTop (mkF m 5 #[rv a, rv b, iv (0 : Int32), iv (0 : Int32), .val .null, .unset] [(.int (0 : Int32))]))) (fun t_ kont => XS.iloadN X2.here hx rfl (hb hby d12_4) rfl kont) ?_
  refine own_bk (S' := (T1.setTop (mkF m 8 #[rv a, rv b, iv (0 : Int32), iv (0 : Int32), .val .null, .unset] []))) (fun t_ kont => XS.ifNo X2.here hx rfl (hb hby d12_5) rfl ((if0 _ _).trans (teq (by decide : ((0 : Int32)) = ((0 : Int32)))).2) kont) ?_
  refine own_bk (S' := (T1.setTop (mkF m 9 #[rv a, rv b, iv (0 : Int32), iv (0 : Int32), .val .null, .unset] [(.ref a)]))) (fun t_ kont => XS.aloadN X2.here hx rfl (hb hby d12_8) rfl rfl kont) ?_
  obtain ⟨x_, T5, h6, k7, y_, ky_, X8, e9, E10, hS, hk12, hZ, hown, Ex_, Fc_, Fv_, -, -, -, -, Lt_, -, st11⟩ := ldcCH X2 hx hZ hown (hw _ (List.mem_of_getElem? (i := 106) rfl)) hwS e3 hS hk0 hEL (List.mem_cons_self ..) hCH (vs := []) (z := 0) ⟨by decide, rfl⟩ (by decide) (by decide) (g := (mkF m 9 #[rv a, rv b, iv (0 : Int32), iv (0 : Int32), .val .null, .unset] [(.ref a)])) rfl (hb hby d12_9) (n := 0) (by decide) (by decide) (by decide) (by decide)
  have E13 := (E.ext E10)
  have F14 := (F0.ext E10)
  have F15 := (F1.ext E10)
  have Z16 := Nat.le_trans Z0 E10.1
  have O17 := O.ext E10
  have nx_ : x_ ≠ a := Fld.ne Fv_ F14 (fun q => nomatch q)
  refine own_bk (S' := (T5.setTop (mkF m 11 #[rv a, rv b, iv (0 : Int32), iv (0 : Int32), .val .null, .unset] [(.ref x_), (.ref a)]))) st11 ?_
  obtain ⟨T18, X19, e20, st21⟩ := getF X8 hx hZ hown (host := "") (Or.inl (hw _ (List.mem_of_getElem? (i := 112) rfl))) Via.refl e9 Fv_ (g := (mkF m 11 #[rv a, rv b, iv (0 : Int32), iv (0 : Int32), .val .null, .unset] [(.ref x_), (.ref a)])) rfl rfl (hb hby d12_11)
  refine own_bk (S' := (T18.setTop (mkF m 14 #[rv a, rv b, iv (0 : Int32), iv (0 : Int32), .val .null, .unset] [(.ref y_), (.ref a)]))) st21 ?_
  obtain ⟨T22, h23, X24, e25, W26, st27⟩ := putF X19 hx hZ hown (host := "") (Or.inl (hw _ (List.mem_of_getElem? (i := 112) rfl))) Via.refl e20 F14 E13 (Or.inr ⟨(hw _ (List.mem_of_getElem? (i := 108) rfl)), rfl, hnm⟩) (hw _ (List.mem_of_getElem? (i := 95) rfl)) (ty := (.array .byte)) (by decide +kernel) rfl rfl (g := (mkF m 14 #[rv a, rv b, iv (0 : Int32), iv (0 : Int32), .val .null, .unset] [(.ref y_), (.ref a)])) rfl rfl (hb hby d12_14)
  have N28 := Fr.snoc X24 N0 ag
  have E29 := (E13.wr W26)
  have F30 := (F14.same W26)
  have F31 := (F15.other W26 (Or.inr (slot_ne (Or.inr (hw _ (List.mem_of_getElem? (i := 109) rfl))) (Or.inr (hw _ (List.mem_of_getElem? (i := 108) rfl))) (by decide) (show parseFieldDescriptor "B" = some .byte from by decide +kernel) (show parseFieldDescriptor "[B" = some (.array .byte) from by decide +kernel))))
  have F32 := (Fv_.other W26 (Or.inl nx_))
  have F33 := (Fc_.other W26 (Or.inl nx_))
  have Z34 := Nat.le_trans Z16 (Keep.of_wr W26).1
  have hk35 := Nat.le_trans hk12 (Keep.of_wr W26).1
  have O36 := O17.wr W26 ag
  refine own_bk (S' := (T22.setTop (mkF m 17 #[rv a, rv b, iv (0 : Int32), iv (0 : Int32), .val .null, .unset] []))) st27 ?_
  refine own_bk (S' := (T22.setTop (mkF m 18 #[rv a, rv b, iv (0 : Int32), iv (0 : Int32), .val .null, .unset] [(.ref a)]))) (fun t_ kont => XS.aloadN X24.here hx rfl (hb hby d12_17) rfl rfl kont) ?_
  refine own_bk (S' := (T22.setTop (mkF m 20 #[rv a, rv b, iv (0 : Int32), iv (0 : Int32), .val .null, .unset] [(.ref x_), (.ref a)]))) (ldcAgain X24 hx hZ hown (hw _ (List.mem_of_getElem? (i := 106) rfl)) Lt_ (g := (mkF m 18 #[rv a, rv b, iv (0 : Int32), iv (0 : Int32), .val .null, .unset] [(.ref a)])) rfl (hb hby d12_18)) ?_
  obtain ⟨T37, X38, e39, st40⟩ := getF X24 hx hZ hown (host := "") (Or.inl (hw _ (List.mem_of_getElem? (i := 113) rfl))) Via.refl e25 F33 (g := (mkF m 20 #[rv a, rv b, iv (0 : Int32), iv (0 : Int32), .val .null, .unset] [(.ref x_), (.ref a)])) rfl rfl (hb hby d12_20)
  refine own_bk (S' := (T37.setTop (mkF m 23 #[rv a, rv b, iv (0 : Int32), iv (0 : Int32), .val .null, .unset] [(.int (0 : Int32)), (.ref a)]))) st40 ?_
  obtain ⟨T41, h42, X43, e44, W45, st46⟩ := putF X38 hx hZ hown (host := "") (Or.inl (hw _ (List.mem_of_getElem? (i := 113) rfl))) Via.refl e39 F31 E29 (Or.inr ⟨(hw _ (List.mem_of_getElem? (i := 109) rfl)), rfl, hnm⟩) (hw _ (List.mem_of_getElem? (i := 95) rfl)) (ty := .byte) (by decide +kernel) rfl rfl (g := (mkF m 23 #[rv a, rv b, iv (0 : Int32), iv (0 : Int32), .val .null, .unset] [(.int (0 : Int32)), (.ref a)])) rfl rfl (hb hby d12_23)
  have N47 := Fr.snoc X43 N28 ag
  have E48 := (E29.wr W45)
  have F49 := (F30.other W45 (Or.inr (slot_ne (Or.inr (hw _ (List.mem_of_getElem? (i := 108) rfl))) (Or.inr (hw _ (List.mem_of_getElem? (i := 109) rfl))) (by decide) (show parseFieldDescriptor "[B" = some (.array .byte) from by decide +kernel) (show parseFieldDescriptor "B" = some .byte from by decide +kernel))))
  have F50 := (F31.same W45)
  have F51 := (F32.other W45 (Or.inl nx_))
  have F52 := (F33.other W45 (Or.inl nx_))
  have Z53 := Nat.le_trans Z34 (Keep.of_wr W45).1
  have hk54 := Nat.le_trans hk35 (Keep.of_wr W45).1
  have O55 := O36.wr W45 ag
  refine own_bk (S' := (T41.setTop (mkF m 26 #[rv a, rv b, iv (0 : Int32), iv (0 : Int32), .val .null, .unset] []))) st46 ?_
  exact own_retVW hS X43 (by rw [show T41.heap = h42 from e44]; exact hk54) hx hlk Bd.returns (hb hby d12_26) (by rw [e44]; exact ⟨rfl, N47, O55, Z53, E48⟩) (by decide) (by decide)
theorem ef_rmI1e (m : MethodId) (x0 : Addr) (x1 : Addr) : entryFrame m #[(.ref x0), (.ref x1)] 2 = mkF m 0 #[.val (.ref x0), .val (.ref x1)] [] := by first | (simp [entryFrame, mkF, argsToLocals, Value.category, maxLocals]; done) | rfl
def Q_rmI1e (Z : State) (a b : Addr) (kb : ClassId) (h0 : Heap) (n0 : Nat) (v : Option Value) (h : Heap) (L : List Loc) : Prop := v = none ∧ Fr n0 L ∧ Old Z n0 h ∧ n0 ≤ h.size ∧ Exa Z h a "java/lang/String"
set_option maxRecDepth 65536 in
set_option maxHeartbeats 40000000 in
theorem rmI1e (l : Launch) (Z : State) (a0 : Array Value) (hw : ∀ d ∈ tables_1, d.before a0 Z = true) (ws : List Jvm.Cond) (a b : Addr) (kb : ClassId) (h0 : Heap) (n0 : Nat) (Z0 : n0 ≤ h0.size) (O : Old Z n0 h0) (VB : Arv Z h0 b kb .char (0 : Int32) [] (.int (0 : Int32))) (E : Exa Z h0 a "java/lang/String") (ag : n0 ≤ a) (F0 : Fld Z h0 a "java/lang/String" "value" "[B" .null) (F1 : Fld Z h0 a "java/lang/String" "coder" "B" (.int 0)) :
    MetFree l (⟨"java/lang/String", "<init>", "([C)V"⟩ : MethodName) (head1 (Jvm.Cond.code (⟨"java/lang/String", "<init>", "([C)V"⟩ : MethodName) jdk_42_method_3_code 2 none :: ws) ({ frames := 2, cells := 2, slots := 4, locals := 40 } : Room)) (fun as_ U_ => as_ = #[(.ref a), (.ref b)] ∧ Z.Warmed39 U_.vm ∧ U_.heap = h0 ∧ CHv Z own_EL U_.vm h0) (fun _ _ _ _ _ => True) (fun _ U_ o_ U2_ => ∃ v_ L_, o_ = .returned v_ ∧ (Q_rmI1e Z a b kb h0 n0) v_ U2_.heap L_ ∧ ReturnedEndW U_ o_ U2_ L_ ({ frames := 2, cells := 2, slots := 4, locals := 40 } : Room).cells ({ frames := 2, cells := 2, slots := 4, locals := 40 } : Room).slots) := by
  refine MetFree.of_bodySF (plainFor_of_name (by first | (simp [plainName, overriddenIn]; done) | decide +kernel : plainName "java/lang/String" = true)) hisR ?_
  intro p e s m args below meth c s₁ Bd hml0 hP hK
  obtain ⟨rfl, hZ, hh, hCH⟩ := hP
  have hEL : EW Z a0 own_EL := EW.cons (hw _ (List.mem_of_getElem? (i := 106) rfl)) (by decide) EW.nil
  have hx := Bd.exec
  have hby := Bd.bytes
  have hlk := Bd.notSynchronized
  have hml : c.maxLocals = 2 := hml0
  have hown : s.vm.findClass "java/lang/String" = some m.cls := findClass_of_methodNamed Bd.named
  have hnm := (name_of_methodNamed Bd.named Bd.method).1
  have X0 : Stand p l e ({ frames := 2, cells := 2, slots := 4, locals := 40 } : Room) (s.setVm s.vm) m #[(.ref a), (.ref b)] below meth c s₁ [] 0 0 := Stand.of_body Bd
  have hS : s.Since s.vm 0 := (State.WarmedH.refl s).since 0
  have hk0 : 0 ≤ h0.size := Nat.zero_le _
  have hwS : ∀ d ∈ Bundle.stringAtoms, d.before a0 Z = true := fun d hd => hw d ((by decide +kernel : ∀ d ∈ Bundle.stringAtoms, d ∈ tables_1) d hd)
  have e0 : s₁.heap = h0 := by rw [← hh, Bd.state]; rfl
  have N0 := Fr.nil n0
  show own_Go p e below (own_RW s below (Q_rmI1e Z a b kb h0 n0) ({ frames := 2, cells := 2, slots := 4, locals := 40 } : Room).cells ({ frames := 2, cells := 2, slots := 4, locals := 40 } : Room).slots) (s₁.setTop (entryFrame m #[(.ref a), (.ref b)] 2))
  refine own_bk (S' := (s₁.setTop (mkF m 0 #[rv a, rv b] []))) (fun t_ kont => castTop (ef_rmI1e m (a) (b)) kont) ?_
  refine own_bk (S' := (s₁.setTop (mkF m 1 #[rv a, rv b] [(.ref a)]))) (fun t_ kont => XS.aloadN X0.here hx rfl (hb hby d11_0) rfl rfl kont) ?_
  refine own_bk (S' := (s₁.setTop (mkF m 2 #[rv a, rv b] [(.ref b), (.ref a)]))) (fun t_ kont => XS.aloadN X0.here hx rfl (hb hby d11_1) rfl rfl kont) ?_
  refine own_bk (S' := (s₁.setTop (mkF m 3 #[rv a, rv b] [(.int (0 : Int32)), (.ref b), (.ref a)]))) (fun t_ kont => XS.iconst X0.here hx rfl (hb hby d11_2) kont) ?_
  refine own_bk (S' := (s₁.setTop (mkF m 4 #[rv a, rv b] [(.ref b), (.int (0 : Int32)), (.ref b), (.ref a)]))) (fun t_ kont => XS.aloadN X0.here hx rfl (hb hby d11_3) rfl rfl kont) ?_
  obtain ⟨c1, A2, q3, S4, M5, H6, U7⟩ := id VB
  refine own_bk (S' := (s₁.setTop (mkF m 5 #[rv a, rv b] [(.int c1.slots.size.toInt32), (.int (0 : Int32)), (.ref b), (.ref a)]))) (fun t_ kont => X0.arraylength hx (cell := c1) (by rw [show s₁.heap = h0 from e0]; exact A2.1) (State.isArrayOf_alike hZ.alike A2.2.1) (g := (mkF m 4 #[rv a, rv b] [(.ref b), (.int (0 : Int32)), (.ref b), (.ref a)])) rfl rfl (hb hby d11_4) _ kont) ?_
  rw [len_of S4 M5]
  refine own_bk (S' := (s₁.setTop (mkF m 6 #[rv a, rv b] [.null, (.int (0 : Int32)), (.int (0 : Int32)), (.ref b), (.ref a)]))) (fun t_ kont => XS.aconstNull X0.here hx rfl (hb hby d11_5) kont) ?_
  obtain ⟨_, _, ⟨T8, L9, k10, n11⟩, -, X12, hS2_, hgr_, ⟨Lc13, hQ14, l15, y16, z17⟩, st18⟩ := X0.specialBackS hx (y := (⟨"java/lang/String", "<init>", "([CIILjava/lang/Void;)V"⟩ : MethodName)) rfl hown (mvT hZ (hw _ (List.mem_of_getElem? (i := 101) rfl))) (mvT hZ (hw _ (List.mem_of_getElem? (i := 102) rfl))) (mvT hZ (hw _ (List.mem_of_getElem? (i := 104) rfl))) (by decide) (own_backH (W := 0) (rmI4e l Z a0 hw [] a b h0 n0 Z0 O E ag F0 F1) hZ (hw _ (List.mem_of_getElem? (i := 104) rfl)) (hw _ (List.mem_of_getElem? (i := 96) rfl)) (by decide) (by decide) hEL hCH) (g := (mkF m 6 #[rv a, rv b] [.null, (.int (0 : Int32)), (.int (0 : Int32)), (.ref b), (.ref a)])) rfl (by rw [hml]; rfl) (Steps.refl _) (a := a) (argsL := [(.ref b), (.int (0 : Int32)), (.int (0 : Int32)), .null]) (rest := []) (lenOf (by decide +kernel : parseMethodDescriptor "([CIILjava/lang/Void;)V" = some ⟨[(.array .char), .int, .int, (.object "java/lang/Void")], none⟩) rfl) rfl (by show 2 * 0 + _ ≤ _; exact Nat.le_of_eq rfl) (hb hby d11_6) (fun _ _ => ⟨rfl, e0, (by decide : 0 + 2 ≤ _), (by decide : 0 + 4 ≤ _)⟩)
  dsimp only [Pt.U, Pt.locs, Pt.cells, Pt.slots] at X12 l15 y16 z17 st18 hQ14 hS2_ hgr_
  subst l15 y16 z17
  obtain ⟨X19, hS, hZ, hown⟩ := rebS hS (by rw [show s₁.heap = h0 from e0]; exact hk0) X12 hS2_ hgr_ hZ hown
  obtain ⟨rfl, N20, O_, Z_, E_⟩ := hQ14
  have N22 := Fr.app N0 N20
  refine own_tr (S' := (T8.setTop (mkF m 9 #[rv a, rv b] []))) st18 ?_
  exact own_retVW hS X19 (by rw [show T8.heap = T8.heap from rfl]; exact (Nat.le_refl _)) hx hlk Bd.returns (hb hby d11_9) ⟨rfl, N22, O_, Z_, E_⟩ (by decide) (by decide)
theorem d23_0 : decode jdk_43_method_3_code 0 = .ok (.iload_n 0, 1) := by decide +kernel
theorem d23_1 : decode jdk_43_method_3_code 1 = .ok (.sipush 255, 3) := by decide +kernel
theorem d23_4 : decode jdk_43_method_3_code 4 = .ok (.if_icmp .gt 7, 3) := by decide +kernel
theorem d23_7 : decode jdk_43_method_3_code 7 = .ok (.iconst 1, 1) := by decide +kernel
theorem d23_8 : decode jdk_43_method_3_code 8 = .ok (.goto 4, 3) := by decide +kernel
theorem d23_11 : decode jdk_43_method_3_code 11 = .ok (.iconst 0, 1) := by decide +kernel
theorem d23_12 : decode jdk_43_method_3_code 12 = .ok (.ireturn, 1) := by decide +kernel
theorem ef_rmCan0 (m : MethodId) (x0 : Int32) : entryFrame m #[(.int x0)] 1 = mkF m 0 #[.val (.int x0)] [] := by first | (simp [entryFrame, mkF, argsToLocals, Value.category, maxLocals]; done) | rfl
def Q_rmCan0 (Z : State) (q : Int32) (h0 : Heap) (n0 : Nat) (v : Option Value) (h : Heap) (L : List Loc) : Prop := v = some (.int 1) ∧ Fr n0 L ∧ h = h0
set_option maxRecDepth 65536 in
set_option maxHeartbeats 40000000 in
theorem rmCan0 (l : Launch) (Z : State) (a0 : Array Value) (hw : ∀ d ∈ tables_1, d.before a0 Z = true) (ws : List Jvm.Cond) (q : Int32) (h0 : Heap) (n0 : Nat) (Z0 : n0 ≤ h0.size) (hq : ¬ (255 : Int32) < q) :
    MetFree l (⟨"java/lang/StringLatin1", "canEncode", "(C)Z"⟩ : MethodName) (head1 (Jvm.Cond.code (⟨"java/lang/StringLatin1", "canEncode", "(C)Z"⟩ : MethodName) jdk_43_method_3_code 1 (some .boolean) :: ws) ({ frames := 0, cells := 0, slots := 0, locals := 0 } : Room)) (fun as_ U_ => as_ = #[(.int q)] ∧ Z.Warmed39 U_.vm ∧ U_.heap = h0) (fun _ _ _ _ _ => True) (fun _ U_ o_ U2_ => ∃ v_ L_, o_ = .returned v_ ∧ (Q_rmCan0 Z q h0 n0) v_ U2_.heap L_ ∧ FrameEnd U_ o_ U2_ L_ ({ frames := 0, cells := 0, slots := 0, locals := 0 } : Room).cells ({ frames := 0, cells := 0, slots := 0, locals := 0 } : Room).slots) := by
  refine MetFree.of_bodySF (plainFor_of_name (by first | (simp [plainName, overriddenIn]; done) | decide +kernel : plainName "java/lang/StringLatin1" = true)) hisR ?_
  intro p e s m args below meth c s₁ Bd hml0 hP hK
  obtain ⟨rfl, hZ, hh⟩ := hP
  have hx := Bd.exec
  have hby := Bd.bytes
  have hlk := Bd.notSynchronized
  have hml : c.maxLocals = 1 := hml0
  have hown : s.vm.findClass "java/lang/StringLatin1" = some m.cls := findClass_of_methodNamed Bd.named
  have hnm := (name_of_methodNamed Bd.named Bd.method).1
  have X0 : Stand p l e ({ frames := 0, cells := 0, slots := 0, locals := 0 } : Room) s m #[(.int q)] below meth c s₁ [] 0 0 := Stand.of_body Bd
  have e0 : s₁.heap = h0 := by rw [← hh, Bd.state]; rfl
  have N0 := Fr.nil n0
  show own_Go p e below (own_R s below (Q_rmCan0 Z q h0 n0) ({ frames := 0, cells := 0, slots := 0, locals := 0 } : Room).cells ({ frames := 0, cells := 0, slots := 0, locals := 0 } : Room).slots) (s₁.setTop (entryFrame m #[(.int q)] 1))
  refine own_bk (S' := (s₁.setTop (mkF m 0 #[iv q] []))) (fun t_ kont => castTop (ef_rmCan0 m (q)) kont) ?_
  refine own_bk (S' := (s₁.setTop (mkF m 1 #[iv q] [(.int q)]))) (fun t_ kont => XS.iloadN X0.here hx rfl (hb hby d23_0) rfl kont) ?_
  refine own_bk (S' := (s₁.setTop (mkF m 4 #[iv q] [(.int (255 : Int32)), (.int q)]))) (fun t_ kont => XS.sipush X0.here hx rfl (hb hby d23_1) kont) ?_
  refine own_bk (S' := (s₁.setTop (mkF m 7 #[iv q] []))) (fun t_ kont => XS.icmpNo X0.here hx rfl (hb hby d23_4) rfl (flt (hq)).2.2.1 kont) ?_
  refine own_bk (S' := (s₁.setTop (mkF m 8 #[iv q] [(.int (1 : Int32))]))) (fun t_ kont => XS.iconst X0.here hx rfl (hb hby d23_7) kont) ?_
  refine own_bk (S' := (s₁.setTop (mkF m 12 #[iv q] [(.int (1 : Int32))]))) (fun t_ kont => XS.goto X0.here hx rfl (pc0 := 8) (pc' := 12) rfl (hb hby d23_8) (by decide) (by decide) kont) ?_
  exact own_retN X0 hx hlk (t := .boolean) (w := (1 : Int32)) Bd.returns (by simp) (hb hby d23_12) rfl ⟨rfl, N0, e0⟩ (by decide) (by decide)
theorem ef_rmCan1 (m : MethodId) (x0 : Int32) : entryFrame m #[(.int x0)] 1 = mkF m 0 #[.val (.int x0)] [] := by first | (simp [entryFrame, mkF, argsToLocals, Value.category, maxLocals]; done) | rfl
def Q_rmCan1 (Z : State) (q : Int32) (h0 : Heap) (n0 : Nat) (v : Option Value) (h : Heap) (L : List Loc) : Prop := v = some (.int 0) ∧ Fr n0 L ∧ h = h0
set_option maxRecDepth 65536 in
set_option maxHeartbeats 40000000 in
theorem rmCan1 (l : Launch) (Z : State) (a0 : Array Value) (hw : ∀ d ∈ tables_1, d.before a0 Z = true) (ws : List Jvm.Cond) (q : Int32) (h0 : Heap) (n0 : Nat) (Z0 : n0 ≤ h0.size) (hq : (255 : Int32) < q) :
    MetFree l (⟨"java/lang/StringLatin1", "canEncode", "(C)Z"⟩ : MethodName) (head1 (Jvm.Cond.code (⟨"java/lang/StringLatin1", "canEncode", "(C)Z"⟩ : MethodName) jdk_43_method_3_code 1 (some .boolean) :: ws) ({ frames := 0, cells := 0, slots := 0, locals := 0 } : Room)) (fun as_ U_ => as_ = #[(.int q)] ∧ Z.Warmed39 U_.vm ∧ U_.heap = h0) (fun _ _ _ _ _ => True) (fun _ U_ o_ U2_ => ∃ v_ L_, o_ = .returned v_ ∧ (Q_rmCan1 Z q h0 n0) v_ U2_.heap L_ ∧ FrameEnd U_ o_ U2_ L_ ({ frames := 0, cells := 0, slots := 0, locals := 0 } : Room).cells ({ frames := 0, cells := 0, slots := 0, locals := 0 } : Room).slots) := by
  refine MetFree.of_bodySF (plainFor_of_name (by first | (simp [plainName, overriddenIn]; done) | decide +kernel : plainName "java/lang/StringLatin1" = true)) hisR ?_
  intro p e s m args below meth c s₁ Bd hml0 hP hK
  obtain ⟨rfl, hZ, hh⟩ := hP
  have hx := Bd.exec
  have hby := Bd.bytes
  have hlk := Bd.notSynchronized
  have hml : c.maxLocals = 1 := hml0
  have hown : s.vm.findClass "java/lang/StringLatin1" = some m.cls := findClass_of_methodNamed Bd.named
  have hnm := (name_of_methodNamed Bd.named Bd.method).1
  have X0 : Stand p l e ({ frames := 0, cells := 0, slots := 0, locals := 0 } : Room) s m #[(.int q)] below meth c s₁ [] 0 0 := Stand.of_body Bd
  have e0 : s₁.heap = h0 := by rw [← hh, Bd.state]; rfl
  have N0 := Fr.nil n0
  show own_Go p e below (own_R s below (Q_rmCan1 Z q h0 n0) ({ frames := 0, cells := 0, slots := 0, locals := 0 } : Room).cells ({ frames := 0, cells := 0, slots := 0, locals := 0 } : Room).slots) (s₁.setTop (entryFrame m #[(.int q)] 1))
  refine own_bk (S' := (s₁.setTop (mkF m 0 #[iv q] []))) (fun t_ kont => castTop (ef_rmCan1 m (q)) kont) ?_
  refine own_bk (S' := (s₁.setTop (mkF m 1 #[iv q] [(.int q)]))) (fun t_ kont => XS.iloadN X0.here hx rfl (hb hby d23_0) rfl kont) ?_
  refine own_bk (S' := (s₁.setTop (mkF m 4 #[iv q] [(.int (255 : Int32)), (.int q)]))) (fun t_ kont => XS.sipush X0.here hx rfl (hb hby d23_1) kont) ?_
  refine own_bk (S' := (s₁.setTop (mkF m 11 #[iv q] []))) (fun t_ kont => XS.icmpYes X0.here hx rfl (pc0 := 4) (pc' := 11) rfl (hb hby d23_4) rfl (tlt (hq)).2.2.1 (by decide) (by decide) kont) ?_
  refine own_bk (S' := (s₁.setTop (mkF m 12 #[iv q] [(.int (0 : Int32))]))) (fun t_ kont => XS.iconst X0.here hx rfl (hb hby d23_11) kont) ?_
  exact own_retN X0 hx hlk (t := .boolean) (w := (0 : Int32)) Bd.returns (by simp) (hb hby d23_12) rfl ⟨rfl, N0, e0⟩ (by decide) (by decide)
theorem d26_0 : decode jdk_43_method_46_code 0 = .ok (.iconst 1, 1) := by decide +kernel
theorem d26_1 : decode jdk_43_method_46_code 1 = .ok (.newarray .byte, 2) := by decide +kernel
theorem d26_3 : decode jdk_43_method_46_code 3 = .ok (.dup, 1) := by decide +kernel
theorem d26_4 : decode jdk_43_method_46_code 4 = .ok (.iconst 0, 1) := by decide +kernel
theorem d26_5 : decode jdk_43_method_46_code 5 = .ok (.iload_n 0, 1) := by decide +kernel
theorem d26_6 : decode jdk_43_method_46_code 6 = .ok (.i2b, 1) := by decide +kernel
theorem d26_7 : decode jdk_43_method_46_code 7 = .ok (.bastore, 1) := by decide +kernel
theorem d26_8 : decode jdk_43_method_46_code 8 = .ok (.areturn, 1) := by decide +kernel
theorem ef_rmTo0 (m : MethodId) (x0 : Int32) : entryFrame m #[(.int x0)] 1 = mkF m 0 #[.val (.int x0)] [] := by first | (simp [entryFrame, mkF, argsToLocals, Value.category, maxLocals]; done) | rfl
def Q_rmTo0 (Z : State) (q cz : Int32) (h0 : Heap) (n0 : Nat) (v : Option Value) (h : Heap) (L : List Loc) : Prop := Fr n0 L ∧ Old Z n0 h ∧ Keep h0 h [] ∧ ∃ a, v = some (.ref a)
set_option maxRecDepth 65536 in
set_option maxHeartbeats 40000000 in
theorem rmTo0 (l : Launch) (Z : State) (a0 : Array Value) (hw : ∀ d ∈ tables_1, d.before a0 Z = true) (ws : List Jvm.Cond) (q cz : Int32) (h0 : Heap) (n0 : Nat) (Z0 : n0 ≤ h0.size) (O : Old Z n0 h0) (SU : own_St Z cz) :
    MetFree l (⟨"java/lang/StringLatin1", "toBytes", "(C)[B"⟩ : MethodName) (head1 (Jvm.Cond.code (⟨"java/lang/StringLatin1", "toBytes", "(C)[B"⟩ : MethodName) jdk_43_method_46_code 1 (some (.array .byte)) :: ws) ({ frames := 0, cells := 1, slots := 1, locals := 0 } : Room)) (fun as_ U_ => as_ = #[(.int q)] ∧ Z.Warmed39 U_.vm ∧ U_.heap = h0) (fun _ _ _ _ _ => True) (fun _ U_ o_ U2_ => ∃ v_ L_, o_ = .returned v_ ∧ (Q_rmTo0 Z q cz h0 n0) v_ U2_.heap L_ ∧ FrameEnd U_ o_ U2_ L_ ({ frames := 0, cells := 1, slots := 1, locals := 0 } : Room).cells ({ frames := 0, cells := 1, slots := 1, locals := 0 } : Room).slots) := by
  refine MetFree.of_bodySF (plainFor_of_name (by first | (simp [plainName, overriddenIn]; done) | decide +kernel : plainName "java/lang/StringLatin1" = true)) hisR ?_
  intro p e s m args below meth c s₁ Bd hml0 hP hK
  obtain ⟨rfl, hZ, hh⟩ := hP
  have hx := Bd.exec
  have hby := Bd.bytes
  have hlk := Bd.notSynchronized
  have hml : c.maxLocals = 1 := hml0
  have hown : s.vm.findClass "java/lang/StringLatin1" = some m.cls := findClass_of_methodNamed Bd.named
  have hnm := (name_of_methodNamed Bd.named Bd.method).1
  have X0 : Stand p l e ({ frames := 0, cells := 1, slots := 1, locals := 0 } : Room) s m #[(.int q)] below meth c s₁ [] 0 0 := Stand.of_body Bd
  have e0 : s₁.heap = h0 := by rw [← hh, Bd.state]; rfl
  have N0 := Fr.nil n0
  show own_Go p e below (own_R s below (Q_rmTo0 Z q cz h0 n0) ({ frames := 0, cells := 1, slots := 1, locals := 0 } : Room).cells ({ frames := 0, cells := 1, slots := 1, locals := 0 } : Room).slots) (s₁.setTop (entryFrame m #[(.int q)] 1))
  refine own_bk (S' := (s₁.setTop (mkF m 0 #[iv q] []))) (fun t_ kont => castTop (ef_rmTo0 m (q)) kont) ?_
  refine own_bk (S' := (s₁.setTop (mkF m 1 #[iv q] [(.int (1 : Int32))]))) (fun t_ kont => XS.iconst X0.here hx rfl (hb hby d26_0) kont) ?_
  obtain ⟨T1, h2, k3, X4, e5, E6, A7, st8⟩ := newP X0 hx hZ (hw _ (List.mem_of_getElem? (i := 107) rfl)) e0 (g := (mkF m 1 #[iv q] [(.int (1 : Int32))])) rfl (hb hby d26_1) rfl (by decide : ¬ ((1 : Int32) < (0 : Int32))) (cap := 1) (by decide : (1 : Int32).toNatClampNeg ≤ 1) (by decide) (by decide) (by decide)
  obtain ⟨a9, g10⟩ : ∃ z, z = h0.size := ⟨_, rfl⟩
  rw [← g10] at A7 st8
  have ag12 : n0 ≤ a9 := Nat.le_trans Z0 (Nat.le_of_eq g10.symm)
  have kg13 : h0.size ≤ a9 := Nat.le_trans (Keep.refl h0 []).1 (Nat.le_of_eq g10.symm)
  have Z14 := Nat.le_trans Z0 E6.1
  have O15 := O.ext E6
  have K16 := (Keep.refl h0 []).ext E6
  have V11 : Arv Z h2 a9 k3 .byte (1 : Int32) [] (.int (0 : Int32)) := (Arv.new A7 (by decide : ¬ ((1 : Int32) < (0 : Int32))))
  have V17 : Arv Z h2 a9 k3 .byte (1 : Int32) [(.int (0 : Int32))] (.int (0 : Int32)) := (V11.pad (pad_rep [] (.int (0 : Int32)) 1))
  refine own_bk (S' := (T1.setTop (mkF m 3 #[iv q] [(.ref a9)]))) st8 ?_
  refine own_bk (S' := (T1.setTop (mkF m 4 #[iv q] [(.ref a9), (.ref a9)]))) (fun t_ kont => XS.dup X4.here hx rfl (hb hby d26_3) rfl rfl kont) ?_
  refine own_bk (S' := (T1.setTop (mkF m 5 #[iv q] [(.int (0 : Int32)), (.ref a9), (.ref a9)]))) (fun t_ kont => XS.iconst X4.here hx rfl (hb hby d26_4) kont) ?_
  refine own_bk (S' := (T1.setTop (mkF m 6 #[iv q] [(.int q), (.int (0 : Int32)), (.ref a9), (.ref a9)]))) (fun t_ kont => XS.iloadN X4.here hx rfl (hb hby d26_5) rfl kont) ?_
  refine own_bk (S' := (T1.setTop (mkF m 7 #[iv q] [(.int (q.toInt8.toInt32)), (.int (0 : Int32)), (.ref a9), (.ref a9)]))) (fun t_ kont => XS.i2b X4.here hx rfl (hb hby d26_6) rfl kont) ?_
  obtain ⟨c18, A19, q20, S21, M22, H23, U24⟩ := id V17
  obtain ⟨T25, h26, X27, e28, W29, st30⟩ := stB X4 hx hZ e5 A19 (j := (0 : Int32)) (inb_of S21 ⟨(by decide : ¬ ((0 : Int32) < (0 : Int32))), (by decide : (0 : Int32) < (1 : Int32))⟩) (g := (mkF m 7 #[iv q] [(.int (q.toInt8.toInt32)), (.int (0 : Int32)), (.ref a9), (.ref a9)])) rfl rfl (hb hby d26_7)
  have N31 := Fr.snoc X27 N0 ag12
  have Z32 := Nat.le_trans Z14 (Keep.of_wr W29).1
  have O33 := O15.wr W29 ag12
  have K34 := K16.wr W29 (Or.inr kg13)
  have V35 : Arv Z h26 a9 k3 .byte (1 : Int32) [(.int (nar .byte (q.toInt8.toInt32)))] (.int (0 : Int32)) := (Arv.set A19 q20 S21 M22 H23 U24 (fits_nar_byte _) W29 0 rfl (Nat.le_of_ble_eq_true rfl))
  refine own_bk (S' := (T25.setTop (mkF m 8 #[iv q] [(.ref a9)]))) st30 ?_
  exact own_retA X27 hx hlk Bd.returns rfl rfl rfl (hb hby d26_8) (by rw [e28]; exact ⟨N31, O33, K34, _, rfl⟩) (by decide) (by decide)
theorem d24_0 : decode jdk_52_method_24_code 0 = .ok (.iconst 2, 1) := by decide +kernel
theorem d24_1 : decode jdk_52_method_24_code 1 = .ok (.newarray .byte, 2) := by decide +kernel
theorem d24_3 : decode jdk_52_method_24_code 3 = .ok (.astore_n 1, 1) := by decide +kernel
theorem d24_4 : decode jdk_52_method_24_code 4 = .ok (.aload_n 1, 1) := by decide +kernel
theorem d24_5 : decode jdk_52_method_24_code 5 = .ok (.iconst 0, 1) := by decide +kernel
theorem d24_6 : decode jdk_52_method_24_code 6 = .ok (.iload_n 0, 1) := by decide +kernel
theorem d24_7 : decode jdk_52_method_24_code 7 = .ok (.invokestatic 111, 3) := by decide +kernel
theorem d24_10 : decode jdk_52_method_24_code 10 = .ok (.aload_n 1, 1) := by decide +kernel
theorem d24_11 : decode jdk_52_method_24_code 11 = .ok (.areturn, 1) := by decide +kernel
theorem ef_rmTo1 (m : MethodId) (x0 : Int32) : entryFrame m #[(.int x0)] 2 = mkF m 0 #[.val (.int x0), .unset] [] := by first | (simp [entryFrame, mkF, argsToLocals, Value.category, maxLocals]; done) | rfl
def Q_rmTo1 (Z : State) (q cz : Int32) (h0 : Heap) (n0 : Nat) (v : Option Value) (h : Heap) (L : List Loc) : Prop := Fr n0 L ∧ Old Z n0 h ∧ Keep h0 h [] ∧ ∃ a, v = some (.ref a)
set_option maxRecDepth 65536 in
set_option maxHeartbeats 40000000 in
theorem rmTo1 (l : Launch) (Z : State) (a0 : Array Value) (hw : ∀ d ∈ tables_1, d.before a0 Z = true) (ws : List Jvm.Cond) (q cz : Int32) (h0 : Heap) (n0 : Nat) (Z0 : n0 ≤ h0.size) (O : Old Z n0 h0) (SU : own_St Z cz) :
    MetFree l (⟨"java/lang/StringUTF16", "toBytes", "(C)[B"⟩ : MethodName) (head1 (Jvm.Cond.code (⟨"java/lang/StringUTF16", "toBytes", "(C)[B"⟩ : MethodName) jdk_52_method_24_code 2 (some (.array .byte)) :: ws) ({ frames := 1, cells := 1, slots := 2, locals := 20 } : Room)) (fun as_ U_ => as_ = #[(.int q)] ∧ Z.Warmed39 U_.vm ∧ U_.heap = h0) (fun _ _ _ _ _ => True) (fun _ U_ o_ U2_ => ∃ v_ L_, o_ = .returned v_ ∧ (Q_rmTo1 Z q cz h0 n0) v_ U2_.heap L_ ∧ FrameEnd U_ o_ U2_ L_ ({ frames := 1, cells := 1, slots := 2, locals := 20 } : Room).cells ({ frames := 1, cells := 1, slots := 2, locals := 20 } : Room).slots) := by
  refine MetFree.of_bodySF (plainFor_of_name (by first | (simp [plainName, overriddenIn]; done) | decide +kernel : plainName "java/lang/StringUTF16" = true)) hisR ?_
  intro p e s m args below meth c s₁ Bd hml0 hP hK
  obtain ⟨rfl, hZ, hh⟩ := hP
  have hx := Bd.exec
  have hby := Bd.bytes
  have hlk := Bd.notSynchronized
  have hml : c.maxLocals = 2 := hml0
  have hown : s.vm.findClass "java/lang/StringUTF16" = some m.cls := findClass_of_methodNamed Bd.named
  have hnm := (name_of_methodNamed Bd.named Bd.method).1
  have X0 : Stand p l e ({ frames := 1, cells := 1, slots := 2, locals := 20 } : Room) s m #[(.int q)] below meth c s₁ [] 0 0 := Stand.of_body Bd
  have e0 : s₁.heap = h0 := by rw [← hh, Bd.state]; rfl
  have N0 := Fr.nil n0
  show own_Go p e below (own_R s below (Q_rmTo1 Z q cz h0 n0) ({ frames := 1, cells := 1, slots := 2, locals := 20 } : Room).cells ({ frames := 1, cells := 1, slots := 2, locals := 20 } : Room).slots) (s₁.setTop (entryFrame m #[(.int q)] 2))
  refine own_bk (S' := (s₁.setTop (mkF m 0 #[iv q, .unset] []))) (fun t_ kont => castTop (ef_rmTo1 m (q)) kont) ?_
  refine own_bk (S' := (s₁.setTop (mkF m 1 #[iv q, .unset] [(.int (2 : Int32))]))) (fun t_ kont => XS.iconst X0.here hx rfl (hb hby d24_0) kont) ?_
  obtain ⟨T1, h2, k3, X4, e5, E6, A7, st8⟩ := newP X0 hx hZ (hw _ (List.mem_of_getElem? (i := 107) rfl)) e0 (g := (mkF m 1 #[iv q, .unset] [(.int (2 : Int32))])) rfl (hb hby d24_1) rfl (by decide : ¬ ((2 : Int32) < (0 : Int32))) (cap := 2) (by decide : (2 : Int32).toNatClampNeg ≤ 2) (by decide) (by decide) (by decide)
  obtain ⟨a9, g10⟩ : ∃ z, z = h0.size := ⟨_, rfl⟩
  rw [← g10] at A7 st8
  have ag12 : n0 ≤ a9 := Nat.le_trans Z0 (Nat.le_of_eq g10.symm)
  have kg13 : h0.size ≤ a9 := Nat.le_trans (Keep.refl h0 []).1 (Nat.le_of_eq g10.symm)
  have Z14 := Nat.le_trans Z0 E6.1
  have O15 := O.ext E6
  have K16 := (Keep.refl h0 []).ext E6
  have V11 : Arv Z h2 a9 k3 .byte (2 : Int32) [] (.int (0 : Int32)) := (Arv.new A7 (by decide : ¬ ((2 : Int32) < (0 : Int32))))
  have V17 : Arv Z h2 a9 k3 .byte (2 : Int32) [(.int (0 : Int32)), (.int (0 : Int32))] (.int (0 : Int32)) := (V11.pad (pad_rep [] (.int (0 : Int32)) 2))
  refine own_bk (S' := (T1.setTop (mkF m 3 #[iv q, .unset] [(.ref a9)]))) st8 ?_
  refine own_bk (S' := (T1.setTop (mkF m 4 #[iv q, rv a9] []))) (fun t_ kont => XS.astoreN X4.here hx rfl (hb hby d24_3) rfl rfl (l' := #[iv q, rv a9]) rfl kont) ?_
  refine own_bk (S' := (T1.setTop (mkF m 5 #[iv q, rv a9] [(.ref a9)]))) (fun t_ kont => XS.aloadN X4.here hx rfl (hb hby d24_4) rfl rfl kont) ?_
  refine own_bk (S' := (T1.setTop (mkF m 6 #[iv q, rv a9] [(.int (0 : Int32)), (.ref a9)]))) (fun t_ kont => XS.iconst X4.here hx rfl (hb hby d24_5) kont) ?_
  refine own_bk (S' := (T1.setTop (mkF m 7 #[iv q, rv a9] [(.int q), (.int (0 : Int32)), (.ref a9)]))) (fun t_ kont => XS.iloadN X4.here hx rfl (hb hby d24_6) rfl kont) ?_
  obtain ⟨_, _, ⟨T18, L19, k20, n21⟩, -, X22, ⟨Lc23, hQ24, l25, y26, z27⟩, st28⟩ := Jvm.LawKit.callS X4 hx (y := (⟨"java/lang/StringUTF16", "putChar", "([BII)V"⟩ : MethodName)) hown (mvT hZ (hw _ (List.mem_of_getElem? (i := 140) rfl))) (mvT hZ (hw _ (List.mem_of_getElem? (i := 141) rfl))) (mvT hZ (hw _ (List.mem_of_getElem? (i := 122) rfl))) (mvT hZ (hw _ (List.mem_of_getElem? (i := 142) rfl))) (by decide) (backOf (W := 0) (rmPC10 l Z a0 hw [] a9 k3 q cz (.int (0 : Int32)) (.int (0 : Int32)) h2 n0 Z14 O15 SU V17 ag12) hZ (hw _ (List.mem_of_getElem? (i := 142) rfl)) (hw _ (List.mem_of_getElem? (i := 122) rfl)) (by decide) (by decide)) (g := (mkF m 7 #[iv q, rv a9] [(.int q), (.int (0 : Int32)), (.ref a9)])) rfl (by rw [hml]; rfl) (argsL := [(.ref a9), (.int (0 : Int32)), (.int q)]) (rest := []) (lenOf (by decide +kernel : parseMethodDescriptor "([BII)V" = some ⟨[(.array .byte), .int, .int], none⟩) rfl) rfl (by show 2 * 0 + _ ≤ _; exact Nat.le_of_eq rfl) (hb hby d24_7) (fun _ _ => ⟨rfl, e5, (by decide : 1 + 0 ≤ _), (by decide : 2 + 0 ≤ _)⟩)
  dsimp only [Pt.U, Pt.locs, Pt.cells, Pt.slots] at X22 l25 y26 z27 st28 hQ24
  subst l25 y26 z27
  obtain ⟨rfl, N29, O_, K_, V_⟩ := hQ24
  have N31 := Fr.app N0 N29
  have Z32 := Nat.le_trans Z14 K_.1
  have O33 := O15.keep K_ (allS ag12 all0)
  have K34 := K16.trans K_ (allS (Or.inr kg13) all0)
  refine own_bk (S' := (T18.setTop (mkF m 10 #[iv q, rv a9] []))) st28 ?_
  refine own_bk (S' := (T18.setTop (mkF m 11 #[iv q, rv a9] [(.ref a9)]))) (fun t_ kont => XS.aloadN X22.here hx rfl (hb hby d24_10) rfl rfl kont) ?_
  exact own_retA X22 hx hlk Bd.returns rfl rfl rfl (hb hby d24_11) ⟨N31, O_, K34, _, rfl⟩ (by decide) (by decide)
theorem d25_0 : decode jdk_42_method_151_code 0 = .ok (.aload_n 0, 1) := by decide +kernel
theorem d25_1 : decode jdk_42_method_151_code 1 = .ok (.invokespecial 1, 3) := by decide +kernel
theorem d25_4 : decode jdk_42_method_151_code 4 = .ok (.aload_n 0, 1) := by decide +kernel
theorem d25_5 : decode jdk_42_method_151_code 5 = .ok (.aload_n 1, 1) := by decide +kernel
theorem d25_6 : decode jdk_42_method_151_code 6 = .ok (.putfield 9, 3) := by decide +kernel
theorem d25_9 : decode jdk_42_method_151_code 9 = .ok (.aload_n 0, 1) := by decide +kernel
theorem d25_10 : decode jdk_42_method_151_code 10 = .ok (.iload_n 2, 1) := by decide +kernel
theorem d25_11 : decode jdk_42_method_151_code 11 = .ok (.putfield 15, 3) := by decide +kernel
theorem d25_14 : decode jdk_42_method_151_code 14 = .ok (.return_, 1) := by decide +kernel
theorem ef_rmBB0 (m : MethodId) (x0 : Addr) (x1 : Addr) (x2 : Int32) : entryFrame m #[(.ref x0), (.ref x1), (.int x2)] 3 = mkF m 0 #[.val (.ref x0), .val (.ref x1), .val (.int x2)] [] := by first | (simp [entryFrame, mkF, argsToLocals, Value.category, maxLocals]; done) | rfl
def Q_rmBB0 (Z : State) (a t : Addr) (h0 : Heap) (n0 : Nat) (v : Option Value) (h : Heap) (L : List Loc) : Prop := v = none ∧ Fr n0 L ∧ Old Z n0 h ∧ n0 ≤ h.size ∧ Exa Z h a "java/lang/String"
set_option maxRecDepth 65536 in
set_option maxHeartbeats 40000000 in
theorem rmBB0 (l : Launch) (Z : State) (a0 : Array Value) (hw : ∀ d ∈ tables_1, d.before a0 Z = true) (ws : List Jvm.Cond) (a t : Addr) (h0 : Heap) (n0 : Nat) (Z0 : n0 ≤ h0.size) (O : Old Z n0 h0) (E : Exa Z h0 a "java/lang/String") (ag : n0 ≤ a) (F0 : Fld Z h0 a "java/lang/String" "value" "[B" .null) (F1 : Fld Z h0 a "java/lang/String" "coder" "B" (.int 0)) :
    MetFree l (⟨"java/lang/String", "<init>", "([BB)V"⟩ : MethodName) (head1 (Jvm.Cond.code (⟨"java/lang/String", "<init>", "([BB)V"⟩ : MethodName) jdk_42_method_151_code 3 none :: ws) ({ frames := 1, cells := 0, slots := 0, locals := 12 } : Room)) (fun as_ U_ => as_ = #[(.ref a), (.ref t), (.int (0 : Int32))] ∧ Z.Warmed39 U_.vm ∧ U_.heap = h0) (fun _ _ _ _ _ => True) (fun _ U_ o_ U2_ => ∃ v_ L_, o_ = .returned v_ ∧ (Q_rmBB0 Z a t h0 n0) v_ U2_.heap L_ ∧ FrameEnd U_ o_ U2_ L_ ({ frames := 1, cells := 0, slots := 0, locals := 12 } : Room).cells ({ frames := 1, cells := 0, slots := 0, locals := 12 } : Room).slots) := by
  refine MetFree.of_bodySF (plainFor_of_name (by first | (simp [plainName, overriddenIn]; done) | decide +kernel : plainName "java/lang/String" = true)) hisR ?_
  intro p e s m args below meth c s₁ Bd hml0 hP hK
  obtain ⟨rfl, hZ, hh⟩ := hP
  have hx := Bd.exec
  have hby := Bd.bytes
  have hlk := Bd.notSynchronized
  have hml : c.maxLocals = 3 := hml0
  have hown : s.vm.findClass "java/lang/String" = some m.cls := findClass_of_methodNamed Bd.named
  have hnm := (name_of_methodNamed Bd.named Bd.method).1
  have X0 : Stand p l e ({ frames := 1, cells := 0, slots := 0, locals := 12 } : Room) s m #[(.ref a), (.ref t), (.int (0 : Int32))] below meth c s₁ [] 0 0 := Stand.of_body Bd
  have e0 : s₁.heap = h0 := by rw [← hh, Bd.state]; rfl
  have N0 := Fr.nil n0
  show own_Go p e below (own_R s below (Q_rmBB0 Z a t h0 n0) ({ frames := 1, cells := 0, slots := 0, locals := 12 } : Room).cells ({ frames := 1, cells := 0, slots := 0, locals := 12 } : Room).slots) (s₁.setTop (entryFrame m #[(.ref a), (.ref t), (.int (0 : Int32))] 3))
  refine own_bk (S' := (s₁.setTop (mkF m 0 #[rv a, rv t, iv (0 : Int32)] []))) (fun t_ kont => castTop (ef_rmBB0 m (a) (t) ((0 : Int32))) kont) ?_
  refine own_bk (S' := (s₁.setTop (mkF m 1 #[rv a, rv t, iv (0 : Int32)] [(.ref a)]))) (fun t_ kont => XS.aloadN X0.here hx rfl (hb hby d25_0) rfl rfl kont) ?_
  obtain ⟨T1, X2, e3, st4⟩ := initO X0 hx hZ hown (hw _ (List.mem_of_getElem? (i := 105) rfl)) (hw _ (List.mem_of_getElem? (i := 24) rfl)) (hw _ (List.mem_of_getElem? (i := 25) rfl)) e0 (g := (mkF m 1 #[rv a, rv t, iv (0 : Int32)] [(.ref a)])) rfl (by rw [hml]; rfl) rfl (hb hby d25_1) (by decide) (W := 0) (by show 2 * 0 + _ ≤ _; exact Nat.le_of_eq rfl) (by decide)
  refine own_bk (S' := (T1.setTop (mkF m 4 #[rv a, rv t, iv (0 : Int32)] []))) st4 ?_
  refine own_bk (S' := (T1.setTop (mkF m 5 #[rv a, rv t, iv (0 : Int32)] [(.ref a)]))) (fun t_ kont => XS.aloadN X2.here hx rfl (hb hby d25_4) rfl rfl kont) ?_
  refine own_bk (S' := (T1.setTop (mkF m 6 #[rv a, rv t, iv (0 : Int32)] [(.ref t), (.ref a)]))) (fun t_ kont => XS.aloadN X2.here hx rfl (hb hby d25_5) rfl rfl kont) ?_
  obtain ⟨T5, h6, X7, e8, W9, st10⟩ := putF X2 hx hZ hown (host := "") (Or.inl (hw _ (List.mem_of_getElem? (i := 112) rfl))) Via.refl e3 F0 E (Or.inr ⟨(hw _ (List.mem_of_getElem? (i := 108) rfl)), rfl, hnm⟩) (hw _ (List.mem_of_getElem? (i := 95) rfl)) (ty := (.array .byte)) (by decide +kernel) rfl rfl (g := (mkF m 6 #[rv a, rv t, iv (0 : Int32)] [(.ref t), (.ref a)])) rfl rfl (hb hby d25_6)
  have N11 := Fr.snoc X7 N0 ag
  have E12 := (E.wr W9)
  have F13 := (F0.same W9)
  have F14 := (F1.other W9 (Or.inr (slot_ne (Or.inr (hw _ (List.mem_of_getElem? (i := 109) rfl))) (Or.inr (hw _ (List.mem_of_getElem? (i := 108) rfl))) (by decide) (show parseFieldDescriptor "B" = some .byte from by decide +kernel) (show parseFieldDescriptor "[B" = some (.array .byte) from by decide +kernel))))
  have Z15 := Nat.le_trans Z0 (Keep.of_wr W9).1
  have O16 := O.wr W9 ag
  refine own_bk (S' := (T5.setTop (mkF m 9 #[rv a, rv t, iv (0 : Int32)] []))) st10 ?_
  refine own_bk (S' := (T5.setTop (mkF m 10 #[rv a, rv t, iv (0 : Int32)] [(.ref a)]))) (fun t_ kont => XS.aloadN X7.here hx rfl (hb hby d25_9) rfl rfl kont) ?_
  refine own_bk (S' := (T5.setTop (mkF m 11 #[rv a, rv t, iv (0 : Int32)] [(.int (0 : Int32)), (.ref a)]))) (fun t_ kont => XS.iloadN X7.here hx rfl (hb hby d25_10) rfl kont) ?_
  obtain ⟨T17, h18, X19, e20, W21, st22⟩ := putF X7 hx hZ hown (host := "") (Or.inl (hw _ (List.mem_of_getElem? (i := 113) rfl))) Via.refl e8 F14 E12 (Or.inr ⟨(hw _ (List.mem_of_getElem? (i := 109) rfl)), rfl, hnm⟩) (hw _ (List.mem_of_getElem? (i := 95) rfl)) (ty := .byte) (by decide +kernel) rfl rfl (g := (mkF m 11 #[rv a, rv t, iv (0 : Int32)] [(.int (0 : Int32)), (.ref a)])) rfl rfl (hb hby d25_11)
  have N23 := Fr.snoc X19 N11 ag
  have E24 := (E12.wr W21)
  have F25 := (F13.other W21 (Or.inr (slot_ne (Or.inr (hw _ (List.mem_of_getElem? (i := 108) rfl))) (Or.inr (hw _ (List.mem_of_getElem? (i := 109) rfl))) (by decide) (show parseFieldDescriptor "[B" = some (.array .byte) from by decide +kernel) (show parseFieldDescriptor "B" = some .byte from by decide +kernel))))
  have F26 := (F14.same W21)
  have Z27 := Nat.le_trans Z15 (Keep.of_wr W21).1
  have O28 := O16.wr W21 ag
  refine own_bk (S' := (T17.setTop (mkF m 14 #[rv a, rv t, iv (0 : Int32)] []))) st22 ?_
  exact own_retV X19 hx hlk Bd.returns (hb hby d25_14) (by rw [e20]; exact ⟨rfl, N23, O28, Z27, E24⟩) (by decide) (by decide)
theorem ef_rmBB1 (m : MethodId) (x0 : Addr) (x1 : Addr) (x2 : Int32) : entryFrame m #[(.ref x0), (.ref x1), (.int x2)] 3 = mkF m 0 #[.val (.ref x0), .val (.ref x1), .val (.int x2)] [] := by first | (simp [entryFrame, mkF, argsToLocals, Value.category, maxLocals]; done) | rfl
def Q_rmBB1 (Z : State) (a t : Addr) (h0 : Heap) (n0 : Nat) (v : Option Value) (h : Heap) (L : List Loc) : Prop := v = none ∧ Fr n0 L ∧ Old Z n0 h ∧ n0 ≤ h.size ∧ Exa Z h a "java/lang/String"
set_option maxRecDepth 65536 in
set_option maxHeartbeats 40000000 in
theorem rmBB1 (l : Launch) (Z : State) (a0 : Array Value) (hw : ∀ d ∈ tables_1, d.before a0 Z = true) (ws : List Jvm.Cond) (a t : Addr) (h0 : Heap) (n0 : Nat) (Z0 : n0 ≤ h0.size) (O : Old Z n0 h0) (E : Exa Z h0 a "java/lang/String") (ag : n0 ≤ a) (F0 : Fld Z h0 a "java/lang/String" "value" "[B" .null) (F1 : Fld Z h0 a "java/lang/String" "coder" "B" (.int 0)) :
    MetFree l (⟨"java/lang/String", "<init>", "([BB)V"⟩ : MethodName) (head1 (Jvm.Cond.code (⟨"java/lang/String", "<init>", "([BB)V"⟩ : MethodName) jdk_42_method_151_code 3 none :: ws) ({ frames := 1, cells := 0, slots := 0, locals := 12 } : Room)) (fun as_ U_ => as_ = #[(.ref a), (.ref t), (.int (1 : Int32))] ∧ Z.Warmed39 U_.vm ∧ U_.heap = h0) (fun _ _ _ _ _ => True) (fun _ U_ o_ U2_ => ∃ v_ L_, o_ = .returned v_ ∧ (Q_rmBB1 Z a t h0 n0) v_ U2_.heap L_ ∧ FrameEnd U_ o_ U2_ L_ ({ frames := 1, cells := 0, slots := 0, locals := 12 } : Room).cells ({ frames := 1, cells := 0, slots := 0, locals := 12 } : Room).slots) := by
  refine MetFree.of_bodySF (plainFor_of_name (by first | (simp [plainName, overriddenIn]; done) | decide +kernel : plainName "java/lang/String" = true)) hisR ?_
  intro p e s m args below meth c s₁ Bd hml0 hP hK
  obtain ⟨rfl, hZ, hh⟩ := hP
  have hx := Bd.exec
  have hby := Bd.bytes
  have hlk := Bd.notSynchronized
  have hml : c.maxLocals = 3 := hml0
  have hown : s.vm.findClass "java/lang/String" = some m.cls := findClass_of_methodNamed Bd.named
  have hnm := (name_of_methodNamed Bd.named Bd.method).1
  have X0 : Stand p l e ({ frames := 1, cells := 0, slots := 0, locals := 12 } : Room) s m #[(.ref a), (.ref t), (.int (1 : Int32))] below meth c s₁ [] 0 0 := Stand.of_body Bd
  have e0 : s₁.heap = h0 := by rw [← hh, Bd.state]; rfl
  have N0 := Fr.nil n0
  show own_Go p e below (own_R s below (Q_rmBB1 Z a t h0 n0) ({ frames := 1, cells := 0, slots := 0, locals := 12 } : Room).cells ({ frames := 1, cells := 0, slots := 0, locals := 12 } : Room).slots) (s₁.setTop (entryFrame m #[(.ref a), (.ref t), (.int (1 : Int32))] 3))
  refine own_bk (S' := (s₁.setTop (mkF m 0 #[rv a, rv t, iv (1 : Int32)] []))) (fun t_ kont => castTop (ef_rmBB1 m (a) (t) ((1 : Int32))) kont) ?_
  refine own_bk (S' := (s₁.setTop (mkF m 1 #[rv a, rv t, iv (1 : Int32)] [(.ref a)]))) (fun t_ kont => XS.aloadN X0.here hx rfl (hb hby d25_0) rfl rfl kont) ?_
  obtain ⟨T1, X2, e3, st4⟩ := initO X0 hx hZ hown (hw _ (List.mem_of_getElem? (i := 105) rfl)) (hw _ (List.mem_of_getElem? (i := 24) rfl)) (hw _ (List.mem_of_getElem? (i := 25) rfl)) e0 (g := (mkF m 1 #[rv a, rv t, iv (1 : Int32)] [(.ref a)])) rfl (by rw [hml]; rfl) rfl (hb hby d25_1) (by decide) (W := 0) (by show 2 * 0 + _ ≤ _; exact Nat.le_of_eq rfl) (by decide)
  refine own_bk (S' := (T1.setTop (mkF m 4 #[rv a, rv t, iv (1 : Int32)] []))) st4 ?_
  refine own_bk (S' := (T1.setTop (mkF m 5 #[rv a, rv t, iv (1 : Int32)] [(.ref a)]))) (fun t_ kont => XS.aloadN X2.here hx rfl (hb hby d25_4) rfl rfl kont) ?_
  refine own_bk (S' := (T1.setTop (mkF m 6 #[rv a, rv t, iv (1 : Int32)] [(.ref t), (.ref a)]))) (fun t_ kont => XS.aloadN X2.here hx rfl (hb hby d25_5) rfl rfl kont) ?_
  obtain ⟨T5, h6, X7, e8, W9, st10⟩ := putF X2 hx hZ hown (host := "") (Or.inl (hw _ (List.mem_of_getElem? (i := 112) rfl))) Via.refl e3 F0 E (Or.inr ⟨(hw _ (List.mem_of_getElem? (i := 108) rfl)), rfl, hnm⟩) (hw _ (List.mem_of_getElem? (i := 95) rfl)) (ty := (.array .byte)) (by decide +kernel) rfl rfl (g := (mkF m 6 #[rv a, rv t, iv (1 : Int32)] [(.ref t), (.ref a)])) rfl rfl (hb hby d25_6)
  have N11 := Fr.snoc X7 N0 ag
  have E12 := (E.wr W9)
  have F13 := (F0.same W9)
  have F14 := (F1.other W9 (Or.inr (slot_ne (Or.inr (hw _ (List.mem_of_getElem? (i := 109) rfl))) (Or.inr (hw _ (List.mem_of_getElem? (i := 108) rfl))) (by decide) (show parseFieldDescriptor "B" = some .byte from by decide +kernel) (show parseFieldDescriptor "[B" = some (.array .byte) from by decide +kernel))))
  have Z15 := Nat.le_trans Z0 (Keep.of_wr W9).1
  have O16 := O.wr W9 ag
  refine own_bk (S' := (T5.setTop (mkF m 9 #[rv a, rv t, iv (1 : Int32)] []))) st10 ?_
  refine own_bk (S' := (T5.setTop (mkF m 10 #[rv a, rv t, iv (1 : Int32)] [(.ref a)]))) (fun t_ kont => XS.aloadN X7.here hx rfl (hb hby d25_9) rfl rfl kont) ?_
  refine own_bk (S' := (T5.setTop (mkF m 11 #[rv a, rv t, iv (1 : Int32)] [(.int (1 : Int32)), (.ref a)]))) (fun t_ kont => XS.iloadN X7.here hx rfl (hb hby d25_10) rfl kont) ?_
  obtain ⟨T17, h18, X19, e20, W21, st22⟩ := putF X7 hx hZ hown (host := "") (Or.inl (hw _ (List.mem_of_getElem? (i := 113) rfl))) Via.refl e8 F14 E12 (Or.inr ⟨(hw _ (List.mem_of_getElem? (i := 109) rfl)), rfl, hnm⟩) (hw _ (List.mem_of_getElem? (i := 95) rfl)) (ty := .byte) (by decide +kernel) rfl rfl (g := (mkF m 11 #[rv a, rv t, iv (1 : Int32)] [(.int (1 : Int32)), (.ref a)])) rfl rfl (hb hby d25_11)
  have N23 := Fr.snoc X19 N11 ag
  have E24 := (E12.wr W21)
  have F25 := (F13.other W21 (Or.inr (slot_ne (Or.inr (hw _ (List.mem_of_getElem? (i := 108) rfl))) (Or.inr (hw _ (List.mem_of_getElem? (i := 109) rfl))) (by decide) (show parseFieldDescriptor "[B" = some (.array .byte) from by decide +kernel) (show parseFieldDescriptor "B" = some .byte from by decide +kernel))))
  have F26 := (F14.same W21)
  have Z27 := Nat.le_trans Z15 (Keep.of_wr W21).1
  have O28 := O16.wr W21 ag
  refine own_bk (S' := (T17.setTop (mkF m 14 #[rv a, rv t, iv (1 : Int32)] []))) st22 ?_
  exact own_retV X19 hx hlk Bd.returns (hb hby d25_14) (by rw [e20]; exact ⟨rfl, N23, O28, Z27, E24⟩) (by decide) (by decide)
theorem d22_0 : decode jdk_42_method_139_code 0 = .ok (.getstatic 38, 3) := by decide +kernel
theorem d22_3 : decode jdk_42_method_139_code 3 = .ok (.ifCond .eq 23, 3) := by decide +kernel
theorem d22_6 : decode jdk_42_method_139_code 6 = .ok (.iload_n 0, 1) := by decide +kernel
theorem d22_7 : decode jdk_42_method_139_code 7 = .ok (.invokestatic 1015, 3) := by decide +kernel
theorem d22_10 : decode jdk_42_method_139_code 10 = .ok (.ifCond .eq 16, 3) := by decide +kernel
theorem d22_13 : decode jdk_42_method_139_code 13 = .ok (.new 10, 3) := by decide +kernel
theorem d22_16 : decode jdk_42_method_139_code 16 = .ok (.dup, 1) := by decide +kernel
theorem d22_17 : decode jdk_42_method_139_code 17 = .ok (.iload_n 0, 1) := by decide +kernel
theorem d22_18 : decode jdk_42_method_139_code 18 = .ok (.invokestatic 1018, 3) := by decide +kernel
theorem d22_21 : decode jdk_42_method_139_code 21 = .ok (.iconst 0, 1) := by decide +kernel
theorem d22_22 : decode jdk_42_method_139_code 22 = .ok (.invokespecial 209, 3) := by decide +kernel
theorem d22_25 : decode jdk_42_method_139_code 25 = .ok (.areturn, 1) := by decide +kernel
theorem d22_26 : decode jdk_42_method_139_code 26 = .ok (.new 10, 3) := by decide +kernel
theorem d22_29 : decode jdk_42_method_139_code 29 = .ok (.dup, 1) := by decide +kernel
theorem d22_30 : decode jdk_42_method_139_code 30 = .ok (.iload_n 0, 1) := by decide +kernel
theorem d22_31 : decode jdk_42_method_139_code 31 = .ok (.invokestatic 1021, 3) := by decide +kernel
theorem d22_34 : decode jdk_42_method_139_code 34 = .ok (.iconst 1, 1) := by decide +kernel
theorem d22_35 : decode jdk_42_method_139_code 35 = .ok (.invokespecial 209, 3) := by decide +kernel
theorem d22_38 : decode jdk_42_method_139_code 38 = .ok (.areturn, 1) := by decide +kernel
theorem ef_rmVal0 (m : MethodId) (x0 : Int32) : entryFrame m #[(.int x0)] 1 = mkF m 0 #[.val (.int x0)] [] := by first | (simp [entryFrame, mkF, argsToLocals, Value.category, maxLocals]; done) | rfl
def Q_rmVal0 (Z : State) (q cz : Int32) (h0 : Heap) (n0 : Nat) (v : Option Value) (h : Heap) (L : List Loc) : Prop := Fr n0 L ∧ Old Z n0 h ∧ n0 ≤ h.size ∧ ∃ a, v = some (.ref a) ∧ Exa Z h a "java/lang/String"
set_option maxRecDepth 65536 in
set_option maxHeartbeats 40000000 in
theorem rmVal0 (l : Launch) (Z : State) (a0 : Array Value) (hw : ∀ d ∈ tables_1, d.before a0 Z = true) (ws : List Jvm.Cond) (q cz : Int32) (h0 : Heap) (n0 : Nat) (Z0 : n0 ≤ h0.size) (O : Old Z n0 h0) (SU : own_St Z cz) (hq : ¬ (255 : Int32) < q) :
    MetFree l (⟨"java/lang/String", "valueOf", "(C)Ljava/lang/String;"⟩ : MethodName) (head1 (Jvm.Cond.code (⟨"java/lang/String", "valueOf", "(C)Ljava/lang/String;"⟩ : MethodName) jdk_42_method_139_code 1 (some (.object "java/lang/String")) :: ws) ({ frames := 2, cells := 2, slots := 6, locals := 48 } : Room)) (fun as_ U_ => as_ = #[(.int q)] ∧ Z.Warmed39 U_.vm ∧ U_.heap = h0) (fun _ _ _ _ _ => True) (fun _ U_ o_ U2_ => ∃ v_ L_, o_ = .returned v_ ∧ (Q_rmVal0 Z q cz h0 n0) v_ U2_.heap L_ ∧ FrameEnd U_ o_ U2_ L_ ({ frames := 2, cells := 2, slots := 6, locals := 48 } : Room).cells ({ frames := 2, cells := 2, slots := 6, locals := 48 } : Room).slots) := by
  refine MetFree.of_bodySF (plainFor_of_name (by first | (simp [plainName, overriddenIn]; done) | decide +kernel : plainName "java/lang/String" = true)) hisR ?_
  intro p e s m args below meth c s₁ Bd hml0 hP hK
  obtain ⟨rfl, hZ, hh⟩ := hP
  have hx := Bd.exec
  have hby := Bd.bytes
  have hlk := Bd.notSynchronized
  have hml : c.maxLocals = 1 := hml0
  have hown : s.vm.findClass "java/lang/String" = some m.cls := findClass_of_methodNamed Bd.named
  have hnm := (name_of_methodNamed Bd.named Bd.method).1
  have X0 : Stand p l e ({ frames := 2, cells := 2, slots := 6, locals := 48 } : Room) s m #[(.int q)] below meth c s₁ [] 0 0 := Stand.of_body Bd
  have e0 : s₁.heap = h0 := by rw [← hh, Bd.state]; rfl
  have N0 := Fr.nil n0
  show own_Go p e below (own_R s below (Q_rmVal0 Z q cz h0 n0) ({ frames := 2, cells := 2, slots := 6, locals := 48 } : Room).cells ({ frames := 2, cells := 2, slots := 6, locals := 48 } : Room).slots) (s₁.setTop (entryFrame m #[(.int q)] 1))
  refine own_bk (S' := (s₁.setTop (mkF m 0 #[iv q] []))) (fun t_ kont => castTop (ef_rmVal0 m (q)) kont) ?_
  obtain ⟨T1, X2, e3, st4⟩ := getS2 X0 hx hZ hown (host := "") (Or.inl (hw _ (List.mem_of_getElem? (i := 119) rfl))) Via.refl e0 (SU.1.ext O.2) (g := (mkF m 0 #[iv q] [])) rfl (hb hby d22_0)
  refine own_bk (S' := (T1.setTop (mkF m 3 #[iv q] [(.int cz)]))) st4 ?_
  refine own_bk (S' := (T1.setTop (mkF m 6 #[iv q] []))) (fun t_ kont => XS.ifNo X2.here hx rfl (hb hby d22_3) rfl ((if0 _ _).trans (feq (SU.2.1)).1) kont) ?_
  refine own_bk (S' := (T1.setTop (mkF m 7 #[iv q] [(.int q)]))) (fun t_ kont => XS.iloadN X2.here hx rfl (hb hby d22_6) rfl kont) ?_
  obtain ⟨_, _, ⟨T5, L6, k7, n8⟩, -, X9, ⟨Lc10, hQ11, l12, y13, z14⟩, st15⟩ := Jvm.LawKit.callS X2 hx (y := (⟨"java/lang/StringLatin1", "canEncode", "(C)Z"⟩ : MethodName)) hown (mvT hZ (hw _ (List.mem_of_getElem? (i := 152) rfl))) (mvT hZ (hw _ (List.mem_of_getElem? (i := 153) rfl))) (mvT hZ (hw _ (List.mem_of_getElem? (i := 154) rfl))) (mvT hZ (hw _ (List.mem_of_getElem? (i := 155) rfl))) (by decide) (backOf (W := 0) (rmCan0 l Z a0 hw [] q h0 n0 Z0 hq) hZ (hw _ (List.mem_of_getElem? (i := 155) rfl)) (hw _ (List.mem_of_getElem? (i := 154) rfl)) (by decide) (by decide)) (g := (mkF m 7 #[iv q] [(.int q)])) rfl (by rw [hml]; rfl) (argsL := [(.int q)]) (rest := []) (lenOf (by decide +kernel : parseMethodDescriptor "(C)Z" = some ⟨[.char], some .boolean⟩) rfl) rfl (by show 2 * 0 + _ ≤ _; exact Nat.le_of_eq rfl) (hb hby d22_7) (fun _ _ => ⟨rfl, e3, (by decide : 0 + 0 ≤ _), (by decide : 0 + 0 ≤ _)⟩)
  dsimp only [Pt.U, Pt.locs, Pt.cells, Pt.slots] at X9 l12 y13 z14 st15 hQ11
  subst l12 y13 z14
  obtain ⟨rfl, N16, e17⟩ := hQ11
  have N18 := Fr.app N0 N16
  refine own_bk (S' := (T5.setTop (mkF m 10 #[iv q] [(.int (1 : Int32))]))) st15 ?_
  refine own_bk (S' := (T5.setTop (mkF m 13 #[iv q] []))) (fun t_ kont => XS.ifNo X9.here hx rfl (hb hby d22_10) rfl ((if0 _ _).trans (feq (by decide : ¬ ((1 : Int32)) = ((0 : Int32)))).1) kont) ?_
  obtain ⟨T19, h20, X21, e22, E23, A24, D25, -, st26⟩ := newO X9 hx hZ hown (hw _ (List.mem_of_getElem? (i := 156) rfl)) (hw _ (List.mem_of_getElem? (i := 95) rfl)) (hw _ (List.mem_of_getElem? (i := 96) rfl)) e17 (g := (mkF m 13 #[iv q] [])) rfl (hb hby d22_13) (by decide) (by decide)
  obtain ⟨a27, g28⟩ : ∃ z, z = h0.size := ⟨_, rfl⟩
  rw [← g28] at A24 D25 st26
  have ag29 : n0 ≤ a27 := Nat.le_trans Z0 (Nat.le_of_eq g28.symm)
  have Z30 := Nat.le_trans Z0 E23.1
  have O31 := O.ext E23
  have F32 : Fld Z h20 a27 "java/lang/String" "value" "[B" .null := (D25 (Or.inr (hw _ (List.mem_of_getElem? (i := 108) rfl))) (ty := (.array .byte)) (by decide +kernel))
  have F33 : Fld Z h20 a27 "java/lang/String" "coder" "B" (.int (0 : Int32)) := (D25 (Or.inr (hw _ (List.mem_of_getElem? (i := 109) rfl))) (ty := .byte) (by decide +kernel))
  refine own_bk (S' := (T19.setTop (mkF m 16 #[iv q] [(.ref a27)]))) st26 ?_
  refine own_bk (S' := (T19.setTop (mkF m 17 #[iv q] [(.ref a27), (.ref a27)]))) (fun t_ kont => XS.dup X21.here hx rfl (hb hby d22_16) rfl rfl kont) ?_
  refine own_bk (S' := (T19.setTop (mkF m 18 #[iv q] [(.int q), (.ref a27), (.ref a27)]))) (fun t_ kont => XS.iloadN X21.here hx rfl (hb hby d22_17) rfl kont) ?_
  obtain ⟨_, _, ⟨T34, L35, k36, n37⟩, -, X38, ⟨Lc39, hQ40, l41, y42, z43⟩, st44⟩ := Jvm.LawKit.callS X21 hx (y := (⟨"java/lang/StringLatin1", "toBytes", "(C)[B"⟩ : MethodName)) hown (mvT hZ (hw _ (List.mem_of_getElem? (i := 163) rfl))) (mvT hZ (hw _ (List.mem_of_getElem? (i := 164) rfl))) (mvT hZ (hw _ (List.mem_of_getElem? (i := 154) rfl))) (mvT hZ (hw _ (List.mem_of_getElem? (i := 165) rfl))) (by decide) (backOf (W := 2) (rmTo0 l Z a0 hw [] q cz h20 n0 Z30 O31 SU) hZ (hw _ (List.mem_of_getElem? (i := 165) rfl)) (hw _ (List.mem_of_getElem? (i := 154) rfl)) (by decide) (by decide)) (g := (mkF m 18 #[iv q] [(.int q), (.ref a27), (.ref a27)])) rfl (by rw [hml]; rfl) (argsL := [(.int q)]) (rest := [(.ref a27), (.ref a27)]) (lenOf (by decide +kernel : parseMethodDescriptor "(C)[B" = some ⟨[.char], some (.array .byte)⟩) rfl) rfl (by show 2 * 0 + _ ≤ _; exact Nat.le_of_eq rfl) (hb hby d22_18) (fun _ _ => ⟨rfl, e22, (by decide : 1 + 1 ≤ _), (by decide : 4 + 1 ≤ _)⟩)
  dsimp only [Pt.U, Pt.locs, Pt.cells, Pt.slots] at X38 l41 y42 z43 st44 hQ40
  subst l41 y42 z43
  obtain ⟨N45, O_, K_, t_, rfl⟩ := hQ40
  have N47 := Fr.app N18 N45
  have E48 := (A24.keep K_)
  have F49 := (F32.keep K_ nin0)
  have F50 := (F33.keep K_ nin0)
  have Z51 := Nat.le_trans Z30 K_.1
  have O52 := O31.keep K_ all0
  refine own_bk (S' := (T34.setTop (mkF m 21 #[iv q] [(.ref t_), (.ref a27), (.ref a27)]))) st44 ?_
  refine own_bk (S' := (T34.setTop (mkF m 22 #[iv q] [(.int (0 : Int32)), (.ref t_), (.ref a27), (.ref a27)]))) (fun t_ kont => XS.iconst X38.here hx rfl (hb hby d22_21) kont) ?_
  obtain ⟨_, _, ⟨T53, L54, k55, n56⟩, -, X57, ⟨Lc58, hQ59, l60, y61, z62⟩, st63⟩ := X38.specialBack hx (y := (⟨"java/lang/String", "<init>", "([BB)V"⟩ : MethodName)) rfl hown (mvT hZ (hw _ (List.mem_of_getElem? (i := 160) rfl))) (mvT hZ (hw _ (List.mem_of_getElem? (i := 161) rfl))) (mvT hZ (hw _ (List.mem_of_getElem? (i := 162) rfl))) (by decide) (backOf (W := 1) (rmBB0 l Z a0 hw [] a27 t_ T34.heap n0 Z51 O_ E48 ag29 F49 F50) hZ (hw _ (List.mem_of_getElem? (i := 162) rfl)) (hw _ (List.mem_of_getElem? (i := 96) rfl)) (by decide) (by decide)) (g := (mkF m 22 #[iv q] [(.int (0 : Int32)), (.ref t_), (.ref a27), (.ref a27)])) rfl (by rw [hml]; rfl) (Steps.refl _) (a := a27) (argsL := [(.ref t_), (.int (0 : Int32))]) (rest := [(.ref a27)]) (lenOf (by decide +kernel : parseMethodDescriptor "([BB)V" = some ⟨[(.array .byte), .byte], none⟩) rfl) rfl (by show 2 * 0 + _ ≤ _; exact Nat.le_of_eq rfl) (hb hby d22_22) (fun _ _ => ⟨rfl, rfl, (by decide : 2 + 0 ≤ _), (by decide : 5 + 0 ≤ _)⟩)
  dsimp only [Pt.U, Pt.locs, Pt.cells, Pt.slots] at X57 l60 y61 z62 st63 hQ59
  subst l60 y61 z62
  obtain ⟨rfl, N64, O2_, Z_, E_⟩ := hQ59
  have N66 := Fr.app N47 N64
  refine own_tr (S' := (T53.setTop (mkF m 25 #[iv q] [(.ref a27)]))) st63 ?_
  exact own_retA X57 hx hlk Bd.returns rfl rfl rfl (hb hby d22_25) ⟨N66, O2_, Z_, _, rfl, E_⟩ (by decide) (by decide)
theorem ef_rmVal1 (m : MethodId) (x0 : Int32) : entryFrame m #[(.int x0)] 1 = mkF m 0 #[.val (.int x0)] [] := by first | (simp [entryFrame, mkF, argsToLocals, Value.category, maxLocals]; done) | rfl
def Q_rmVal1 (Z : State) (q cz : Int32) (h0 : Heap) (n0 : Nat) (v : Option Value) (h : Heap) (L : List Loc) : Prop := Fr n0 L ∧ Old Z n0 h ∧ n0 ≤ h.size ∧ ∃ a, v = some (.ref a) ∧ Exa Z h a "java/lang/String"
set_option maxRecDepth 65536 in
set_option maxHeartbeats 40000000 in
theorem rmVal1 (l : Launch) (Z : State) (a0 : Array Value) (hw : ∀ d ∈ tables_1, d.before a0 Z = true) (ws : List Jvm.Cond) (q cz : Int32) (h0 : Heap) (n0 : Nat) (Z0 : n0 ≤ h0.size) (O : Old Z n0 h0) (SU : own_St Z cz) (hq : (255 : Int32) < q) :
    MetFree l (⟨"java/lang/String", "valueOf", "(C)Ljava/lang/String;"⟩ : MethodName) (head1 (Jvm.Cond.code (⟨"java/lang/String", "valueOf", "(C)Ljava/lang/String;"⟩ : MethodName) jdk_42_method_139_code 1 (some (.object "java/lang/String")) :: ws) ({ frames := 2, cells := 2, slots := 6, locals := 48 } : Room)) (fun as_ U_ => as_ = #[(.int q)] ∧ Z.Warmed39 U_.vm ∧ U_.heap = h0) (fun _ _ _ _ _ => True) (fun _ U_ o_ U2_ => ∃ v_ L_, o_ = .returned v_ ∧ (Q_rmVal1 Z q cz h0 n0) v_ U2_.heap L_ ∧ FrameEnd U_ o_ U2_ L_ ({ frames := 2, cells := 2, slots := 6, locals := 48 } : Room).cells ({ frames := 2, cells := 2, slots := 6, locals := 48 } : Room).slots) := by
  refine MetFree.of_bodySF (plainFor_of_name (by first | (simp [plainName, overriddenIn]; done) | decide +kernel : plainName "java/lang/String" = true)) hisR ?_
  intro p e s m args below meth c s₁ Bd hml0 hP hK
  obtain ⟨rfl, hZ, hh⟩ := hP
  have hx := Bd.exec
  have hby := Bd.bytes
  have hlk := Bd.notSynchronized
  have hml : c.maxLocals = 1 := hml0
  have hown : s.vm.findClass "java/lang/String" = some m.cls := findClass_of_methodNamed Bd.named
  have hnm := (name_of_methodNamed Bd.named Bd.method).1
  have X0 : Stand p l e ({ frames := 2, cells := 2, slots := 6, locals := 48 } : Room) s m #[(.int q)] below meth c s₁ [] 0 0 := Stand.of_body Bd
  have e0 : s₁.heap = h0 := by rw [← hh, Bd.state]; rfl
  have N0 := Fr.nil n0
  show own_Go p e below (own_R s below (Q_rmVal1 Z q cz h0 n0) ({ frames := 2, cells := 2, slots := 6, locals := 48 } : Room).cells ({ frames := 2, cells := 2, slots := 6, locals := 48 } : Room).slots) (s₁.setTop (entryFrame m #[(.int q)] 1))
  refine own_bk (S' := (s₁.setTop (mkF m 0 #[iv q] []))) (fun t_ kont => castTop (ef_rmVal1 m (q)) kont) ?_
  obtain ⟨T1, X2, e3, st4⟩ := getS2 X0 hx hZ hown (host := "") (Or.inl (hw _ (List.mem_of_getElem? (i := 119) rfl))) Via.refl e0 (SU.1.ext O.2) (g := (mkF m 0 #[iv q] [])) rfl (hb hby d22_0)
  refine own_bk (S' := (T1.setTop (mkF m 3 #[iv q] [(.int cz)]))) st4 ?_
  refine own_bk (S' := (T1.setTop (mkF m 6 #[iv q] []))) (fun t_ kont => XS.ifNo X2.here hx rfl (hb hby d22_3) rfl ((if0 _ _).trans (feq (SU.2.1)).1) kont) ?_
  refine own_bk (S' := (T1.setTop (mkF m 7 #[iv q] [(.int q)]))) (fun t_ kont => XS.iloadN X2.here hx rfl (hb hby d22_6) rfl kont) ?_
  obtain ⟨_, _, ⟨T5, L6, k7, n8⟩, -, X9, ⟨Lc10, hQ11, l12, y13, z14⟩, st15⟩ := Jvm.LawKit.callS X2 hx (y := (⟨"java/lang/StringLatin1", "canEncode", "(C)Z"⟩ : MethodName)) hown (mvT hZ (hw _ (List.mem_of_getElem? (i := 152) rfl))) (mvT hZ (hw _ (List.mem_of_getElem? (i := 153) rfl))) (mvT hZ (hw _ (List.mem_of_getElem? (i := 154) rfl))) (mvT hZ (hw _ (List.mem_of_getElem? (i := 155) rfl))) (by decide) (backOf (W := 0) (rmCan1 l Z a0 hw [] q h0 n0 Z0 hq) hZ (hw _ (List.mem_of_getElem? (i := 155) rfl)) (hw _ (List.mem_of_getElem? (i := 154) rfl)) (by decide) (by decide)) (g := (mkF m 7 #[iv q] [(.int q)])) rfl (by rw [hml]; rfl) (argsL := [(.int q)]) (rest := []) (lenOf (by decide +kernel : parseMethodDescriptor "(C)Z" = some ⟨[.char], some .boolean⟩) rfl) rfl (by show 2 * 0 + _ ≤ _; exact Nat.le_of_eq rfl) (hb hby d22_7) (fun _ _ => ⟨rfl, e3, (by decide : 0 + 0 ≤ _), (by decide : 0 + 0 ≤ _)⟩)
  dsimp only [Pt.U, Pt.locs, Pt.cells, Pt.slots] at X9 l12 y13 z14 st15 hQ11
  subst l12 y13 z14
  obtain ⟨rfl, N16, e17⟩ := hQ11
  have N18 := Fr.app N0 N16
  refine own_bk (S' := (T5.setTop (mkF m 10 #[iv q] [(.int (0 : Int32))]))) st15 ?_
  refine own_bk (S' := (T5.setTop (mkF m 26 #[iv q] []))) (fun t_ kont => XS.ifYes X9.here hx rfl (pc0 := 10) (pc' := 26) rfl (hb hby d22_10) rfl ((if0 _ _).trans (teq (by decide : ((0 : Int32)) = ((0 : Int32)))).1) (by decide) (by decide) kont) ?_
  obtain ⟨T19, h20, X21, e22, E23, A24, D25, -, st26⟩ := newO X9 hx hZ hown (hw _ (List.mem_of_getElem? (i := 156) rfl)) (hw _ (List.mem_of_getElem? (i := 95) rfl)) (hw _ (List.mem_of_getElem? (i := 96) rfl)) e17 (g := (mkF m 26 #[iv q] [])) rfl (hb hby d22_26) (by decide) (by decide)
  obtain ⟨a27, g28⟩ : ∃ z, z = h0.size := ⟨_, rfl⟩
  rw [← g28] at A24 D25 st26
  have ag29 : n0 ≤ a27 := Nat.le_trans Z0 (Nat.le_of_eq g28.symm)
  have Z30 := Nat.le_trans Z0 E23.1
  have O31 := O.ext E23
  have F32 : Fld Z h20 a27 "java/lang/String" "value" "[B" .null := (D25 (Or.inr (hw _ (List.mem_of_getElem? (i := 108) rfl))) (ty := (.array .byte)) (by decide +kernel))
  have F33 : Fld Z h20 a27 "java/lang/String" "coder" "B" (.int (0 : Int32)) := (D25 (Or.inr (hw _ (List.mem_of_getElem? (i := 109) rfl))) (ty := .byte) (by decide +kernel))
  refine own_bk (S' := (T19.setTop (mkF m 29 #[iv q] [(.ref a27)]))) st26 ?_
  refine own_bk (S' := (T19.setTop (mkF m 30 #[iv q] [(.ref a27), (.ref a27)]))) (fun t_ kont => XS.dup X21.here hx rfl (hb hby d22_29) rfl rfl kont) ?_
  refine own_bk (S' := (T19.setTop (mkF m 31 #[iv q] [(.int q), (.ref a27), (.ref a27)]))) (fun t_ kont => XS.iloadN X21.here hx rfl (hb hby d22_30) rfl kont) ?_
  obtain ⟨_, _, ⟨T34, L35, k36, n37⟩, -, X38, ⟨Lc39, hQ40, l41, y42, z43⟩, st44⟩ := Jvm.LawKit.callS X21 hx (y := (⟨"java/lang/StringUTF16", "toBytes", "(C)[B"⟩ : MethodName)) hown (mvT hZ (hw _ (List.mem_of_getElem? (i := 157) rfl))) (mvT hZ (hw _ (List.mem_of_getElem? (i := 158) rfl))) (mvT hZ (hw _ (List.mem_of_getElem? (i := 122) rfl))) (mvT hZ (hw _ (List.mem_of_getElem? (i := 159) rfl))) (by decide) (backOf (W := 2) (rmTo1 l Z a0 hw [] q cz h20 n0 Z30 O31 SU) hZ (hw _ (List.mem_of_getElem? (i := 159) rfl)) (hw _ (List.mem_of_getElem? (i := 122) rfl)) (by decide) (by decide)) (g := (mkF m 31 #[iv q] [(.int q), (.ref a27), (.ref a27)])) rfl (by rw [hml]; rfl) (argsL := [(.int q)]) (rest := [(.ref a27), (.ref a27)]) (lenOf (by decide +kernel : parseMethodDescriptor "(C)[B" = some ⟨[.char], some (.array .byte)⟩) rfl) rfl (by show 2 * 0 + _ ≤ _; exact Nat.le_of_eq rfl) (hb hby d22_31) (fun _ _ => ⟨rfl, e22, (by decide : 1 + 1 ≤ _), (by decide : 4 + 2 ≤ _)⟩)
  dsimp only [Pt.U, Pt.locs, Pt.cells, Pt.slots] at X38 l41 y42 z43 st44 hQ40
  subst l41 y42 z43
  obtain ⟨N45, O_, K_, t_, rfl⟩ := hQ40
  have N47 := Fr.app N18 N45
  have E48 := (A24.keep K_)
  have F49 := (F32.keep K_ nin0)
  have F50 := (F33.keep K_ nin0)
  have Z51 := Nat.le_trans Z30 K_.1
  have O52 := O31.keep K_ all0
  refine own_bk (S' := (T34.setTop (mkF m 34 #[iv q] [(.ref t_), (.ref a27), (.ref a27)]))) st44 ?_
  refine own_bk (S' := (T34.setTop (mkF m 35 #[iv q] [(.int (1 : Int32)), (.ref t_), (.ref a27), (.ref a27)]))) (fun t_ kont => XS.iconst X38.here hx rfl (hb hby d22_34) kont) ?_
  obtain ⟨_, _, ⟨T53, L54, k55, n56⟩, -, X57, ⟨Lc58, hQ59, l60, y61, z62⟩, st63⟩ := X38.specialBack hx (y := (⟨"java/lang/String", "<init>", "([BB)V"⟩ : MethodName)) rfl hown (mvT hZ (hw _ (List.mem_of_getElem? (i := 160) rfl))) (mvT hZ (hw _ (List.mem_of_getElem? (i := 161) rfl))) (mvT hZ (hw _ (List.mem_of_getElem? (i := 162) rfl))) (by decide) (backOf (W := 1) (rmBB1 l Z a0 hw [] a27 t_ T34.heap n0 Z51 O_ E48 ag29 F49 F50) hZ (hw _ (List.mem_of_getElem? (i := 162) rfl)) (hw _ (List.mem_of_getElem? (i := 96) rfl)) (by decide) (by decide)) (g := (mkF m 35 #[iv q] [(.int (1 : Int32)), (.ref t_), (.ref a27), (.ref a27)])) rfl (by rw [hml]; rfl) (Steps.refl _) (a := a27) (argsL := [(.ref t_), (.int (1 : Int32))]) (rest := [(.ref a27)]) (lenOf (by decide +kernel : parseMethodDescriptor "([BB)V" = some ⟨[(.array .byte), .byte], none⟩) rfl) rfl (by show 2 * 0 + _ ≤ _; exact Nat.le_of_eq rfl) (hb hby d22_35) (fun _ _ => ⟨rfl, rfl, (by decide : 2 + 0 ≤ _), (by decide : 6 + 0 ≤ _)⟩)
  dsimp only [Pt.U, Pt.locs, Pt.cells, Pt.slots] at X57 l60 y61 z62 st63 hQ59
  subst l60 y61 z62
  obtain ⟨rfl, N64, O2_, Z_, E_⟩ := hQ59
  have N66 := Fr.app N47 N64
  refine own_tr (S' := (T53.setTop (mkF m 38 #[iv q] [(.ref a27)]))) st63 ?_
  exact own_retA X57 hx hlk Bd.returns rfl rfl rfl (hb hby d22_38) ⟨N66, O2_, Z_, _, rfl, E_⟩ (by decide) (by decide)
theorem d10_0 : decode method_2_code 0 = .ok (.iload_n 0, 1) := by decide +kernel
theorem d10_1 : decode method_2_code 1 = .ok (.iconst 3, 1) := by decide +kernel
theorem d10_2 : decode method_2_code 2 = .ok (.iand, 1) := by decide +kernel
theorem d10_3 : decode method_2_code 3 = .ok (.istore 4, 2) := by decide +kernel
theorem d10_5 : decode method_2_code 5 = .ok (.iload_n 1, 1) := by decide +kernel
theorem d10_6 : decode method_2_code 6 = .ok (.ldc 7, 2) := by decide +kernel
theorem d10_8 : decode method_2_code 8 = .ok (.iand, 1) := by decide +kernel
theorem d10_9 : decode method_2_code 9 = .ok (.i2c, 1) := by decide +kernel
theorem d10_10 : decode method_2_code 10 = .ok (.istore 5, 2) := by decide +kernel
theorem d10_12 : decode method_2_code 12 = .ok (.iload_n 2, 1) := by decide +kernel
theorem d10_13 : decode method_2_code 13 = .ok (.ldc 7, 2) := by decide +kernel
theorem d10_15 : decode method_2_code 15 = .ok (.iand, 1) := by decide +kernel
theorem d10_16 : decode method_2_code 16 = .ok (.i2c, 1) := by decide +kernel
theorem d10_17 : decode method_2_code 17 = .ok (.istore 6, 2) := by decide +kernel
theorem d10_19 : decode method_2_code 19 = .ok (.iload_n 3, 1) := by decide +kernel
theorem d10_20 : decode method_2_code 20 = .ok (.ldc 7, 2) := by decide +kernel
theorem d10_22 : decode method_2_code 22 = .ok (.iand, 1) := by decide +kernel
theorem d10_23 : decode method_2_code 23 = .ok (.i2c, 1) := by decide +kernel
theorem d10_24 : decode method_2_code 24 = .ok (.istore 7, 2) := by decide +kernel
theorem d10_26 : decode method_2_code 26 = .ok (.iload 4, 2) := by decide +kernel
theorem d10_28 : decode method_2_code 28 = .ok (.ifCond .ne 14, 3) := by decide +kernel
theorem d10_31 : decode method_2_code 31 = .ok (.new 8, 3) := by decide +kernel
theorem d10_34 : decode method_2_code 34 = .ok (.dup, 1) := by decide +kernel
theorem d10_35 : decode method_2_code 35 = .ok (.iconst 0, 1) := by decide +kernel
theorem d10_36 : decode method_2_code 36 = .ok (.newarray .char, 2) := by decide +kernel
theorem d10_38 : decode method_2_code 38 = .ok (.invokespecial 10, 3) := by decide +kernel
theorem d10_41 : decode method_2_code 41 = .ok (.areturn, 1) := by decide +kernel
theorem d10_42 : decode method_2_code 42 = .ok (.iload 4, 2) := by decide +kernel
theorem d10_44 : decode method_2_code 44 = .ok (.iconst 1, 1) := by decide +kernel
theorem d10_45 : decode method_2_code 45 = .ok (.if_icmp .ne 9, 3) := by decide +kernel
theorem d10_48 : decode method_2_code 48 = .ok (.iload 5, 2) := by decide +kernel
theorem d10_50 : decode method_2_code 50 = .ok (.invokestatic 13, 3) := by decide +kernel
theorem d10_53 : decode method_2_code 53 = .ok (.areturn, 1) := by decide +kernel
theorem d10_54 : decode method_2_code 54 = .ok (.iload 4, 2) := by decide +kernel
theorem d10_56 : decode method_2_code 56 = .ok (.iconst 2, 1) := by decide +kernel
theorem d10_57 : decode method_2_code 57 = .ok (.if_icmp .ne 30, 3) := by decide +kernel
theorem d10_60 : decode method_2_code 60 = .ok (.iconst 2, 1) := by decide +kernel
theorem d10_61 : decode method_2_code 61 = .ok (.newarray .char, 2) := by decide +kernel
theorem d10_63 : decode method_2_code 63 = .ok (.astore 8, 2) := by decide +kernel
theorem d10_65 : decode method_2_code 65 = .ok (.aload 8, 2) := by decide +kernel
theorem d10_67 : decode method_2_code 67 = .ok (.iconst 0, 1) := by decide +kernel
theorem d10_68 : decode method_2_code 68 = .ok (.iload 5, 2) := by decide +kernel
theorem d10_70 : decode method_2_code 70 = .ok (.castore, 1) := by decide +kernel
theorem d10_71 : decode method_2_code 71 = .ok (.aload 8, 2) := by decide +kernel
theorem d10_73 : decode method_2_code 73 = .ok (.iconst 1, 1) := by decide +kernel
theorem d10_74 : decode method_2_code 74 = .ok (.iload 6, 2) := by decide +kernel
theorem d10_76 : decode method_2_code 76 = .ok (.castore, 1) := by decide +kernel
theorem d10_77 : decode method_2_code 77 = .ok (.new 8, 3) := by decide +kernel
theorem d10_80 : decode method_2_code 80 = .ok (.dup, 1) := by decide +kernel
theorem d10_81 : decode method_2_code 81 = .ok (.aload 8, 2) := by decide +kernel
theorem d10_83 : decode method_2_code 83 = .ok (.invokespecial 10, 3) := by decide +kernel
theorem d10_86 : decode method_2_code 86 = .ok (.areturn, 1) := by decide +kernel
theorem d10_87 : decode method_2_code 87 = .ok (.iconst 3, 1) := by decide +kernel
theorem d10_88 : decode method_2_code 88 = .ok (.newarray .char, 2) := by decide +kernel
theorem d10_90 : decode method_2_code 90 = .ok (.astore 8, 2) := by decide +kernel
theorem d10_92 : decode method_2_code 92 = .ok (.aload 8, 2) := by decide +kernel
theorem d10_94 : decode method_2_code 94 = .ok (.iconst 0, 1) := by decide +kernel
theorem d10_95 : decode method_2_code 95 = .ok (.iload 5, 2) := by decide +kernel
theorem d10_97 : decode method_2_code 97 = .ok (.castore, 1) := by decide +kernel
theorem d10_98 : decode method_2_code 98 = .ok (.aload 8, 2) := by decide +kernel
theorem d10_100 : decode method_2_code 100 = .ok (.iconst 1, 1) := by decide +kernel
theorem d10_101 : decode method_2_code 101 = .ok (.iload 6, 2) := by decide +kernel
theorem d10_103 : decode method_2_code 103 = .ok (.castore, 1) := by decide +kernel
theorem d10_104 : decode method_2_code 104 = .ok (.aload 8, 2) := by decide +kernel
theorem d10_106 : decode method_2_code 106 = .ok (.iconst 2, 1) := by decide +kernel
theorem d10_107 : decode method_2_code 107 = .ok (.iload 7, 2) := by decide +kernel
theorem d10_109 : decode method_2_code 109 = .ok (.castore, 1) := by decide +kernel
theorem d10_110 : decode method_2_code 110 = .ok (.new 8, 3) := by decide +kernel
theorem d10_113 : decode method_2_code 113 = .ok (.dup, 1) := by decide +kernel
theorem d10_114 : decode method_2_code 114 = .ok (.aload 8, 2) := by decide +kernel
theorem d10_116 : decode method_2_code 116 = .ok (.invokespecial 10, 3) := by decide +kernel
theorem d10_119 : decode method_2_code 119 = .ok (.areturn, 1) := by decide +kernel
theorem ef_rmDraw (m : MethodId) (x0 : Int32) (x1 : Int32) (x2 : Int32) (x3 : Int32) : entryFrame m #[(.int x0), (.int x1), (.int x2), (.int x3)] 9 = mkF m 0 #[.val (.int x0), .val (.int x1), .val (.int x2), .val (.int x3), .unset, .unset, .unset, .unset, .unset] [] := by first | (simp [entryFrame, mkF, argsToLocals, Value.category, maxLocals]; done) | rfl
def Q_rmDraw (Z : State) (v0 v1 v2 v3 cz : Int32) (h0 : Heap) (n0 : Nat) (v : Option Value) (h : Heap) (L : List Loc) : Prop := Fr n0 L ∧ Old Z n0 h ∧ n0 ≤ h.size ∧ ∃ a, v = some (.ref a) ∧ Exa Z h a "java/lang/String"
set_option maxRecDepth 65536 in
set_option maxHeartbeats 40000000 in
theorem rmDraw (l : Launch) (Z : State) (a0 : Array Value) (hw : ∀ d ∈ tables_1, d.before a0 Z = true) (ws : List Jvm.Cond) (v0 v1 v2 v3 cz : Int32) (h0 : Heap) (n0 : Nat) (Z0 : n0 ≤ h0.size) (O : Old Z n0 h0) (SU : own_St Z cz) :
    MetFree l (⟨"com/example/portunus/portunus/CommandFailureUsagePinLaw", "draw", "(IIII)Ljava/lang/String;"⟩ : MethodName) (head1 (Jvm.Cond.code (⟨"com/example/portunus/portunus/CommandFailureUsagePinLaw", "draw", "(IIII)Ljava/lang/String;"⟩ : MethodName) method_2_code 9 (some (.object "java/lang/String")) :: ws) ({ frames := 6, cells := 8, slots := 64, locals := 140 } : Room)) (fun as_ U_ => as_ = #[(.int v0), (.int v1), (.int v2), (.int v3)] ∧ Z.Warmed39 U_.vm ∧ U_.heap = h0 ∧ CHv Z own_EL U_.vm h0) (fun _ _ _ _ _ => True) (fun _ U_ o_ U2_ => ∃ v_ L_, o_ = .returned v_ ∧ (Q_rmDraw Z v0 v1 v2 v3 cz h0 n0) v_ U2_.heap L_ ∧ ReturnedEndW U_ o_ U2_ L_ ({ frames := 6, cells := 8, slots := 64, locals := 140 } : Room).cells ({ frames := 6, cells := 8, slots := 64, locals := 140 } : Room).slots) := by
  refine MetFree.of_bodySF (plainFor_of_name (by first | (simp [plainName, overriddenIn]; done) | decide +kernel : plainName "com/example/portunus/portunus/CommandFailureUsagePinLaw" = true)) hisR ?_
  intro p e s m args below meth c s₁ Bd hml0 hP hK
  obtain ⟨rfl, hZ, hh, hCH⟩ := hP
  have hEL : EW Z a0 own_EL := EW.cons (hw _ (List.mem_of_getElem? (i := 106) rfl)) (by decide) EW.nil
  have hx := Bd.exec
  have hby := Bd.bytes
  have hlk := Bd.notSynchronized
  have hml : c.maxLocals = 9 := hml0
  have hown : s.vm.findClass "com/example/portunus/portunus/CommandFailureUsagePinLaw" = some m.cls := findClass_of_methodNamed Bd.named
  have hnm := (name_of_methodNamed Bd.named Bd.method).1
  have X0 : Stand p l e ({ frames := 6, cells := 8, slots := 64, locals := 140 } : Room) (s.setVm s.vm) m #[(.int v0), (.int v1), (.int v2), (.int v3)] below meth c s₁ [] 0 0 := Stand.of_body Bd
  have hS : s.Since s.vm 0 := (State.WarmedH.refl s).since 0
  have hk0 : 0 ≤ h0.size := Nat.zero_le _
  have hwS : ∀ d ∈ Bundle.stringAtoms, d.before a0 Z = true := fun d hd => hw d ((by decide +kernel : ∀ d ∈ Bundle.stringAtoms, d ∈ tables_1) d hd)
  have e0 : s₁.heap = h0 := by rw [← hh, Bd.state]; rfl
  have N0 := Fr.nil n0
  show own_Go p e below (own_RW s below (Q_rmDraw Z v0 v1 v2 v3 cz h0 n0) ({ frames := 6, cells := 8, slots := 64, locals := 140 } : Room).cells ({ frames := 6, cells := 8, slots := 64, locals := 140 } : Room).slots) (s₁.setTop (entryFrame m #[(.int v0), (.int v1), (.int v2), (.int v3)] 9))
  refine own_bk (S' := (s₁.setTop (mkF m 0 #[iv v0, iv v1, iv v2, iv v3, .unset, .unset, .unset, .unset, .unset] []))) (fun t_ kont => castTop (ef_rmDraw m (v0) (v1) (v2) (v3)) kont) ?_
  refine own_bk (S' := (s₁.setTop (mkF m 1 #[iv v0, iv v1, iv v2, iv v3, .unset, .unset, .unset, .unset, .unset] [(.int v0)]))) (fun t_ kont => XS.iloadN X0.here hx rfl (hb hby d10_0) rfl kont) ?_
  refine own_bk (S' := (s₁.setTop (mkF m 2 #[iv v0, iv v1, iv v2, iv v3, .unset, .unset, .unset, .unset, .unset] [(.int (3 : Int32)), (.int v0)]))) (fun t_ kont => XS.iconst X0.here hx rfl (hb hby d10_1) kont) ?_
  refine own_bk (S' := (s₁.setTop (mkF m 3 #[iv v0, iv v1, iv v2, iv v3, .unset, .unset, .unset, .unset, .unset] [(.int (v0 &&& (3 : Int32)))]))) (fun t_ kont => XS.iand X0.here hx rfl (hb hby d10_2) rfl kont) ?_
  refine own_bk (S' := (s₁.setTop (mkF m 5 #[iv v0, iv v1, iv v2, iv v3, iv (v0 &&& (3 : Int32)), .unset, .unset, .unset, .unset] []))) (fun t_ kont => XS.istore X0.here hx rfl (hb hby d10_3) rfl (l' := #[iv v0, iv v1, iv v2, iv v3, iv (v0 &&& (3 : Int32)), .unset, .unset, .unset, .unset]) rfl kont) ?_
  refine own_bk (S' := (s₁.setTop (mkF m 6 #[iv v0, iv v1, iv v2, iv v3, iv (v0 &&& (3 : Int32)), .unset, .unset, .unset, .unset] [(.int v1)]))) (fun t_ kont => XS.iloadN X0.here hx rfl (hb hby d10_5) rfl kont) ?_
  refine own_bk (S' := (s₁.setTop (mkF m 8 #[iv v0, iv v1, iv v2, iv v3, iv (v0 &&& (3 : Int32)), .unset, .unset, .unset, .unset] [(.int (65535 : Int32)), (.int v1)]))) (fun t_ kont => X0.ldcI hx hown (mvT hZ (hw _ (List.mem_of_getElem? (i := 93) rfl))) rfl (hb hby d10_6) kont) ?_
  refine own_bk (S' := (s₁.setTop (mkF m 9 #[iv v0, iv v1, iv v2, iv v3, iv (v0 &&& (3 : Int32)), .unset, .unset, .unset, .unset] [(.int (v1 &&& (65535 : Int32)))]))) (fun t_ kont => XS.iand X0.here hx rfl (hb hby d10_8) rfl kont) ?_
  refine own_bk (S' := (s₁.setTop (mkF m 10 #[iv v0, iv v1, iv v2, iv v3, iv (v0 &&& (3 : Int32)), .unset, .unset, .unset, .unset] [(.int ((v1 &&& (65535 : Int32)).toUInt32.toUInt16.toUInt32.toInt32))]))) (fun t_ kont => XS.i2c X0.here hx rfl (hb hby d10_9) rfl kont) ?_
  refine own_bk (S' := (s₁.setTop (mkF m 12 #[iv v0, iv v1, iv v2, iv v3, iv (v0 &&& (3 : Int32)), iv ((v1 &&& (65535 : Int32)).toUInt32.toUInt16.toUInt32.toInt32), .unset, .unset, .unset] []))) (fun t_ kont => XS.istore X0.here hx rfl (hb hby d10_10) rfl (l' := #[iv v0, iv v1, iv v2, iv v3, iv (v0 &&& (3 : Int32)), iv ((v1 &&& (65535 : Int32)).toUInt32.toUInt16.toUInt32.toInt32), .unset, .unset, .unset]) rfl kont) ?_
  refine own_bk (S' := (s₁.setTop (mkF m 13 #[iv v0, iv v1, iv v2, iv v3, iv (v0 &&& (3 : Int32)), iv ((v1 &&& (65535 : Int32)).toUInt32.toUInt16.toUInt32.toInt32), .unset, .unset, .unset] [(.int v2)]))) (fun t_ kont => XS.iloadN X0.here hx rfl (hb hby d10_12) rfl kont) ?_
  refine own_bk (S' := (s₁.setTop (mkF m 15 #[iv v0, iv v1, iv v2, iv v3, iv (v0 &&& (3 : Int32)), iv ((v1 &&& (65535 : Int32)).toUInt32.toUInt16.toUInt32.toInt32), .unset, .unset, .unset] [(.int (65535 : Int32)), (.int v2)]))) (fun t_ kont => X0.ldcI hx hown (mvT hZ (hw _ (List.mem_of_getElem? (i := 93) rfl))) rfl (hb hby d10_13) kont) ?_
  refine own_bk (S' := (s₁.setTop (mkF m 16 #[iv v0, iv v1, iv v2, iv v3, iv (v0 &&& (3 : Int32)), iv ((v1 &&& (65535 : Int32)).toUInt32.toUInt16.toUInt32.toInt32), .unset, .unset, .unset] [(.int (v2 &&& (65535 : Int32)))]))) (fun t_ kont => XS.iand X0.here hx rfl (hb hby d10_15) rfl kont) ?_
  refine own_bk (S' := (s₁.setTop (mkF m 17 #[iv v0, iv v1, iv v2, iv v3, iv (v0 &&& (3 : Int32)), iv ((v1 &&& (65535 : Int32)).toUInt32.toUInt16.toUInt32.toInt32), .unset, .unset, .unset] [(.int ((v2 &&& (65535 : Int32)).toUInt32.toUInt16.toUInt32.toInt32))]))) (fun t_ kont => XS.i2c X0.here hx rfl (hb hby d10_16) rfl kont) ?_
  refine own_bk (S' := (s₁.setTop (mkF m 19 #[iv v0, iv v1, iv v2, iv v3, iv (v0 &&& (3 : Int32)), iv ((v1 &&& (65535 : Int32)).toUInt32.toUInt16.toUInt32.toInt32), iv ((v2 &&& (65535 : Int32)).toUInt32.toUInt16.toUInt32.toInt32), .unset, .unset] []))) (fun t_ kont => XS.istore X0.here hx rfl (hb hby d10_17) rfl (l' := #[iv v0, iv v1, iv v2, iv v3, iv (v0 &&& (3 : Int32)), iv ((v1 &&& (65535 : Int32)).toUInt32.toUInt16.toUInt32.toInt32), iv ((v2 &&& (65535 : Int32)).toUInt32.toUInt16.toUInt32.toInt32), .unset, .unset]) rfl kont) ?_
  refine own_bk (S' := (s₁.setTop (mkF m 20 #[iv v0, iv v1, iv v2, iv v3, iv (v0 &&& (3 : Int32)), iv ((v1 &&& (65535 : Int32)).toUInt32.toUInt16.toUInt32.toInt32), iv ((v2 &&& (65535 : Int32)).toUInt32.toUInt16.toUInt32.toInt32), .unset, .unset] [(.int v3)]))) (fun t_ kont => XS.iloadN X0.here hx rfl (hb hby d10_19) rfl kont) ?_
  refine own_bk (S' := (s₁.setTop (mkF m 22 #[iv v0, iv v1, iv v2, iv v3, iv (v0 &&& (3 : Int32)), iv ((v1 &&& (65535 : Int32)).toUInt32.toUInt16.toUInt32.toInt32), iv ((v2 &&& (65535 : Int32)).toUInt32.toUInt16.toUInt32.toInt32), .unset, .unset] [(.int (65535 : Int32)), (.int v3)]))) (fun t_ kont => X0.ldcI hx hown (mvT hZ (hw _ (List.mem_of_getElem? (i := 93) rfl))) rfl (hb hby d10_20) kont) ?_
  refine own_bk (S' := (s₁.setTop (mkF m 23 #[iv v0, iv v1, iv v2, iv v3, iv (v0 &&& (3 : Int32)), iv ((v1 &&& (65535 : Int32)).toUInt32.toUInt16.toUInt32.toInt32), iv ((v2 &&& (65535 : Int32)).toUInt32.toUInt16.toUInt32.toInt32), .unset, .unset] [(.int (v3 &&& (65535 : Int32)))]))) (fun t_ kont => XS.iand X0.here hx rfl (hb hby d10_22) rfl kont) ?_
  refine own_bk (S' := (s₁.setTop (mkF m 24 #[iv v0, iv v1, iv v2, iv v3, iv (v0 &&& (3 : Int32)), iv ((v1 &&& (65535 : Int32)).toUInt32.toUInt16.toUInt32.toInt32), iv ((v2 &&& (65535 : Int32)).toUInt32.toUInt16.toUInt32.toInt32), .unset, .unset] [(.int ((v3 &&& (65535 : Int32)).toUInt32.toUInt16.toUInt32.toInt32))]))) (fun t_ kont => XS.i2c X0.here hx rfl (hb hby d10_23) rfl kont) ?_
  refine own_bk (S' := (s₁.setTop (mkF m 26 #[iv v0, iv v1, iv v2, iv v3, iv (v0 &&& (3 : Int32)), iv ((v1 &&& (65535 : Int32)).toUInt32.toUInt16.toUInt32.toInt32), iv ((v2 &&& (65535 : Int32)).toUInt32.toUInt16.toUInt32.toInt32), iv ((v3 &&& (65535 : Int32)).toUInt32.toUInt16.toUInt32.toInt32), .unset] []))) (fun t_ kont => XS.istore X0.here hx rfl (hb hby d10_24) rfl (l' := #[iv v0, iv v1, iv v2, iv v3, iv (v0 &&& (3 : Int32)), iv ((v1 &&& (65535 : Int32)).toUInt32.toUInt16.toUInt32.toInt32), iv ((v2 &&& (65535 : Int32)).toUInt32.toUInt16.toUInt32.toInt32), iv ((v3 &&& (65535 : Int32)).toUInt32.toUInt16.toUInt32.toInt32), .unset]) rfl kont) ?_
  refine own_bk (S' := (s₁.setTop (mkF m 28 #[iv v0, iv v1, iv v2, iv v3, iv (v0 &&& (3 : Int32)), iv ((v1 &&& (65535 : Int32)).toUInt32.toUInt16.toUInt32.toInt32), iv ((v2 &&& (65535 : Int32)).toUInt32.toUInt16.toUInt32.toInt32), iv ((v3 &&& (65535 : Int32)).toUInt32.toUInt16.toUInt32.toInt32), .unset] [(.int (v0 &&& (3 : Int32)))]))) (fun t_ kont => XS.iload X0.here hx rfl (hb hby d10_26) rfl kont) ?_
  by_cases hc1 : ((v0 &&& (3 : Int32))) = ((0 : Int32))
  · refine own_bk (S' := (s₁.setTop (mkF m 31 #[iv v0, iv v1, iv v2, iv v3, iv (v0 &&& (3 : Int32)), iv ((v1 &&& (65535 : Int32)).toUInt32.toUInt16.toUInt32.toInt32), iv ((v2 &&& (65535 : Int32)).toUInt32.toUInt16.toUInt32.toInt32), iv ((v3 &&& (65535 : Int32)).toUInt32.toUInt16.toUInt32.toInt32), .unset] []))) (fun t_ kont => XS.ifNo X0.here hx rfl (hb hby d10_28) rfl ((if0 _ _).trans (teq (hc1)).2) kont) ?_
    obtain ⟨T2, h3, X4, e5, E6, A7, D8, -, st9⟩ := newO X0 hx hZ hown (hw _ (List.mem_of_getElem? (i := 94) rfl)) (hw _ (List.mem_of_getElem? (i := 95) rfl)) (hw _ (List.mem_of_getElem? (i := 96) rfl)) e0 (g := (mkF m 31 #[iv v0, iv v1, iv v2, iv v3, iv (v0 &&& (3 : Int32)), iv ((v1 &&& (65535 : Int32)).toUInt32.toUInt16.toUInt32.toInt32), iv ((v2 &&& (65535 : Int32)).toUInt32.toUInt16.toUInt32.toInt32), iv ((v3 &&& (65535 : Int32)).toUInt32.toUInt16.toUInt32.toInt32), .unset] [])) rfl (hb hby d10_31) (by decide) (by decide)
    obtain ⟨a10, g11⟩ : ∃ z, z = h0.size := ⟨_, rfl⟩
    rw [← g11] at A7 D8 st9
    have ag12 : n0 ≤ a10 := Nat.le_trans Z0 (Nat.le_of_eq g11.symm)
    have Z13 := Nat.le_trans Z0 E6.1
    have hk14 := Nat.le_trans hk0 E6.1
    have O15 := O.ext E6
    have CH16 := CHv.ext E6 hCH
    have F17 : Fld Z h3 a10 "java/lang/String" "value" "[B" .null := (D8 (Or.inr (hw _ (List.mem_of_getElem? (i := 108) rfl))) (ty := (.array .byte)) (by decide +kernel))
    have F18 : Fld Z h3 a10 "java/lang/String" "coder" "B" (.int (0 : Int32)) := (D8 (Or.inr (hw _ (List.mem_of_getElem? (i := 109) rfl))) (ty := .byte) (by decide +kernel))
    refine own_bk (S' := (T2.setTop (mkF m 34 #[iv v0, iv v1, iv v2, iv v3, iv (v0 &&& (3 : Int32)), iv ((v1 &&& (65535 : Int32)).toUInt32.toUInt16.toUInt32.toInt32), iv ((v2 &&& (65535 : Int32)).toUInt32.toUInt16.toUInt32.toInt32), iv ((v3 &&& (65535 : Int32)).toUInt32.toUInt16.toUInt32.toInt32), .unset] [(.ref a10)]))) st9 ?_
    refine own_bk (S' := (T2.setTop (mkF m 35 #[iv v0, iv v1, iv v2, iv v3, iv (v0 &&& (3 : Int32)), iv ((v1 &&& (65535 : Int32)).toUInt32.toUInt16.toUInt32.toInt32), iv ((v2 &&& (65535 : Int32)).toUInt32.toUInt16.toUInt32.toInt32), iv ((v3 &&& (65535 : Int32)).toUInt32.toUInt16.toUInt32.toInt32), .unset] [(.ref a10), (.ref a10)]))) (fun t_ kont => XS.dup X4.here hx rfl (hb hby d10_34) rfl rfl kont) ?_
    refine own_bk (S' := (T2.setTop (mkF m 36 #[iv v0, iv v1, iv v2, iv v3, iv (v0 &&& (3 : Int32)), iv ((v1 &&& (65535 : Int32)).toUInt32.toUInt16.toUInt32.toInt32), iv ((v2 &&& (65535 : Int32)).toUInt32.toUInt16.toUInt32.toInt32), iv ((v3 &&& (65535 : Int32)).toUInt32.toUInt16.toUInt32.toInt32), .unset] [(.int (0 : Int32)), (.ref a10), (.ref a10)]))) (fun t_ kont => XS.iconst X4.here hx rfl (hb hby d10_35) kont) ?_
    obtain ⟨T19, h20, k21, X22, e23, E24, A25, st26⟩ := newP X4 hx hZ (hw _ (List.mem_of_getElem? (i := 97) rfl)) e5 (g := (mkF m 36 #[iv v0, iv v1, iv v2, iv v3, iv (v0 &&& (3 : Int32)), iv ((v1 &&& (65535 : Int32)).toUInt32.toUInt16.toUInt32.toInt32), iv ((v2 &&& (65535 : Int32)).toUInt32.toUInt16.toUInt32.toInt32), iv ((v3 &&& (65535 : Int32)).toUInt32.toUInt16.toUInt32.toInt32), .unset] [(.int (0 : Int32)), (.ref a10), (.ref a10)])) rfl (hb hby d10_36) rfl (by decide : ¬ ((0 : Int32) < (0 : Int32))) (cap := 0) (by decide : (0 : Int32).toNatClampNeg ≤ 0) (by decide) (by decide) (by decide)
    obtain ⟨a27, g28⟩ : ∃ z, z = h3.size := ⟨_, rfl⟩
    rw [← g28] at A25 st26
    have ne30 : a10 ≠ a27 := Nat.ne_of_lt (Nat.lt_of_lt_of_le A7.lt (Nat.le_of_eq g28.symm))
    have ag31 : n0 ≤ a27 := Nat.le_trans Z13 (Nat.le_of_eq g28.symm)
    have E32 := (A7.ext E24)
    have F33 := (F17.ext E24)
    have F34 := (F18.ext E24)
    have Z35 := Nat.le_trans Z13 E24.1
    have hk36 := Nat.le_trans hk14 E24.1
    have O37 := O15.ext E24
    have CH38 := CHv.ext E24 CH16
    have V29 : Arv Z h20 a27 k21 .char (0 : Int32) [] (.int (0 : Int32)) := (Arv.new A25 (by decide : ¬ ((0 : Int32) < (0 : Int32))))
    have V39 : Arv Z h20 a27 k21 .char (0 : Int32) [] (.int (0 : Int32)) := (V29.pad (pad_rep [] (.int (0 : Int32)) 0))
    refine own_bk (S' := (T19.setTop (mkF m 38 #[iv v0, iv v1, iv v2, iv v3, iv (v0 &&& (3 : Int32)), iv ((v1 &&& (65535 : Int32)).toUInt32.toUInt16.toUInt32.toInt32), iv ((v2 &&& (65535 : Int32)).toUInt32.toUInt16.toUInt32.toInt32), iv ((v3 &&& (65535 : Int32)).toUInt32.toUInt16.toUInt32.toInt32), .unset] [(.ref a27), (.ref a10), (.ref a10)]))) st26 ?_
    obtain ⟨_, _, ⟨T40, L41, k42, n43⟩, -, X44, hS2_, hgr_, ⟨Lc45, hQ46, l47, y48, z49⟩, st50⟩ := X22.specialBackS hx (y := (⟨"java/lang/String", "<init>", "([C)V"⟩ : MethodName)) rfl hown (mvT hZ (hw _ (List.mem_of_getElem? (i := 98) rfl))) (mvT hZ (hw _ (List.mem_of_getElem? (i := 99) rfl))) (mvT hZ (hw _ (List.mem_of_getElem? (i := 100) rfl))) (by decide) (own_backH (W := 1) (rmI1e l Z a0 hw [] a10 a27 k21 h20 n0 Z35 O37 V39 E32 ag12 F33 F34) hZ (hw _ (List.mem_of_getElem? (i := 100) rfl)) (hw _ (List.mem_of_getElem? (i := 96) rfl)) (by decide) (by decide) hEL CH38) (g := (mkF m 38 #[iv v0, iv v1, iv v2, iv v3, iv (v0 &&& (3 : Int32)), iv ((v1 &&& (65535 : Int32)).toUInt32.toUInt16.toUInt32.toInt32), iv ((v2 &&& (65535 : Int32)).toUInt32.toUInt16.toUInt32.toInt32), iv ((v3 &&& (65535 : Int32)).toUInt32.toUInt16.toUInt32.toInt32), .unset] [(.ref a27), (.ref a10), (.ref a10)])) rfl (by rw [hml]; rfl) (Steps.refl _) (a := a10) (argsL := [(.ref a27)]) (rest := [(.ref a10)]) (lenOf (by decide +kernel : parseMethodDescriptor "([C)V" = some ⟨[(.array .char)], none⟩) rfl) rfl (by show 2 * 0 + _ ≤ _; exact Nat.le_of_eq rfl) (hb hby d10_38) (fun _ _ => ⟨rfl, e23, (by decide : 2 + 2 ≤ _), (by decide : 4 + 4 ≤ _)⟩)
    dsimp only [Pt.U, Pt.locs, Pt.cells, Pt.slots] at X44 l47 y48 z49 st50 hQ46 hS2_ hgr_
    subst l47 y48 z49
    obtain ⟨X51, hS, hZ, hown⟩ := rebS hS (by rw [show T19.heap = h20 from e23]; exact hk36) X44 hS2_ hgr_ hZ hown
    obtain ⟨rfl, N52, O_, Z_, E_⟩ := hQ46
    have N54 := Fr.app N0 N52
    refine own_tr (S' := (T40.setTop (mkF m 41 #[iv v0, iv v1, iv v2, iv v3, iv (v0 &&& (3 : Int32)), iv ((v1 &&& (65535 : Int32)).toUInt32.toUInt16.toUInt32.toInt32), iv ((v2 &&& (65535 : Int32)).toUInt32.toUInt16.toUInt32.toInt32), iv ((v3 &&& (65535 : Int32)).toUInt32.toUInt16.toUInt32.toInt32), .unset] [(.ref a10)]))) st50 ?_
    exact own_retAW hS X51 (by rw [show T40.heap = T40.heap from rfl]; exact (Nat.le_refl _)) hx hlk Bd.returns rfl rfl rfl (hb hby d10_41) ⟨N54, O_, Z_, _, rfl, E_⟩ (by decide) (by decide)
  · refine own_bk (S' := (s₁.setTop (mkF m 42 #[iv v0, iv v1, iv v2, iv v3, iv (v0 &&& (3 : Int32)), iv ((v1 &&& (65535 : Int32)).toUInt32.toUInt16.toUInt32.toInt32), iv ((v2 &&& (65535 : Int32)).toUInt32.toUInt16.toUInt32.toInt32), iv ((v3 &&& (65535 : Int32)).toUInt32.toUInt16.toUInt32.toInt32), .unset] []))) (fun t_ kont => XS.ifYes X0.here hx rfl (pc0 := 28) (pc' := 42) rfl (hb hby d10_28) rfl ((if0 _ _).trans (feq (hc1)).2) (by decide) (by decide) kont) ?_
    refine own_bk (S' := (s₁.setTop (mkF m 44 #[iv v0, iv v1, iv v2, iv v3, iv (v0 &&& (3 : Int32)), iv ((v1 &&& (65535 : Int32)).toUInt32.toUInt16.toUInt32.toInt32), iv ((v2 &&& (65535 : Int32)).toUInt32.toUInt16.toUInt32.toInt32), iv ((v3 &&& (65535 : Int32)).toUInt32.toUInt16.toUInt32.toInt32), .unset] [(.int (v0 &&& (3 : Int32)))]))) (fun t_ kont => XS.iload X0.here hx rfl (hb hby d10_42) rfl kont) ?_
    refine own_bk (S' := (s₁.setTop (mkF m 45 #[iv v0, iv v1, iv v2, iv v3, iv (v0 &&& (3 : Int32)), iv ((v1 &&& (65535 : Int32)).toUInt32.toUInt16.toUInt32.toInt32), iv ((v2 &&& (65535 : Int32)).toUInt32.toUInt16.toUInt32.toInt32), iv ((v3 &&& (65535 : Int32)).toUInt32.toUInt16.toUInt32.toInt32), .unset] [(.int (1 : Int32)), (.int (v0 &&& (3 : Int32)))]))) (fun t_ kont => XS.iconst X0.here hx rfl (hb hby d10_44) kont) ?_
    by_cases hc55 : ((v0 &&& (3 : Int32))) = ((1 : Int32))
    · refine own_bk (S' := (s₁.setTop (mkF m 48 #[iv v0, iv v1, iv v2, iv v3, iv (v0 &&& (3 : Int32)), iv ((v1 &&& (65535 : Int32)).toUInt32.toUInt16.toUInt32.toInt32), iv ((v2 &&& (65535 : Int32)).toUInt32.toUInt16.toUInt32.toInt32), iv ((v3 &&& (65535 : Int32)).toUInt32.toUInt16.toUInt32.toInt32), .unset] []))) (fun t_ kont => XS.icmpNo X0.here hx rfl (hb hby d10_45) rfl (teq (hc55)).2 kont) ?_
      refine own_bk (S' := (s₁.setTop (mkF m 50 #[iv v0, iv v1, iv v2, iv v3, iv (v0 &&& (3 : Int32)), iv ((v1 &&& (65535 : Int32)).toUInt32.toUInt16.toUInt32.toInt32), iv ((v2 &&& (65535 : Int32)).toUInt32.toUInt16.toUInt32.toInt32), iv ((v3 &&& (65535 : Int32)).toUInt32.toUInt16.toUInt32.toInt32), .unset] [(.int ((v1 &&& (65535 : Int32)).toUInt32.toUInt16.toUInt32.toInt32))]))) (fun t_ kont => XS.iload X0.here hx rfl (hb hby d10_48) rfl kont) ?_
      by_cases hc56 : (255 : Int32) < ((v1 &&& (65535 : Int32)).toUInt32.toUInt16.toUInt32.toInt32)
      · obtain ⟨_, _, ⟨T57, L58, k59, n60⟩, -, X61, ⟨Lc62, hQ63, l64, y65, z66⟩, st67⟩ := Jvm.LawKit.callS X0 hx (y := (⟨"java/lang/String", "valueOf", "(C)Ljava/lang/String;"⟩ : MethodName)) hown (mvT hZ (hw _ (List.mem_of_getElem? (i := 149) rfl))) (mvT hZ (hw _ (List.mem_of_getElem? (i := 150) rfl))) (mvT hZ (hw _ (List.mem_of_getElem? (i := 96) rfl))) (mvT hZ (hw _ (List.mem_of_getElem? (i := 151) rfl))) (by decide) (backOf (W := 0) (rmVal1 l Z a0 hw [] ((v1 &&& (65535 : Int32)).toUInt32.toUInt16.toUInt32.toInt32) cz h0 n0 Z0 O SU hc56) hZ (hw _ (List.mem_of_getElem? (i := 151) rfl)) (hw _ (List.mem_of_getElem? (i := 96) rfl)) (by decide) (by decide)) (g := (mkF m 50 #[iv v0, iv v1, iv v2, iv v3, iv (v0 &&& (3 : Int32)), iv ((v1 &&& (65535 : Int32)).toUInt32.toUInt16.toUInt32.toInt32), iv ((v2 &&& (65535 : Int32)).toUInt32.toUInt16.toUInt32.toInt32), iv ((v3 &&& (65535 : Int32)).toUInt32.toUInt16.toUInt32.toInt32), .unset] [(.int ((v1 &&& (65535 : Int32)).toUInt32.toUInt16.toUInt32.toInt32))])) rfl (by rw [hml]; rfl) (argsL := [(.int ((v1 &&& (65535 : Int32)).toUInt32.toUInt16.toUInt32.toInt32))]) (rest := []) (lenOf (by decide +kernel : parseMethodDescriptor "(C)Ljava/lang/String;" = some ⟨[.char], some (.object "java/lang/String")⟩) rfl) rfl (by show 2 * 0 + _ ≤ _; exact Nat.le_of_eq rfl) (hb hby d10_50) (fun _ _ => ⟨rfl, e0, (by decide : 0 + 2 ≤ _), (by decide : 0 + 6 ≤ _)⟩)
        dsimp only [Pt.U, Pt.locs, Pt.cells, Pt.slots] at X61 l64 y65 z66 st67 hQ63
        subst l64 y65 z66
        obtain ⟨N68, O_, Z_, a_, rfl, E_⟩ := hQ63
        have N70 := Fr.app N0 N68
        refine own_bk (S' := (T57.setTop (mkF m 53 #[iv v0, iv v1, iv v2, iv v3, iv (v0 &&& (3 : Int32)), iv ((v1 &&& (65535 : Int32)).toUInt32.toUInt16.toUInt32.toInt32), iv ((v2 &&& (65535 : Int32)).toUInt32.toUInt16.toUInt32.toInt32), iv ((v3 &&& (65535 : Int32)).toUInt32.toUInt16.toUInt32.toInt32), .unset] [(.ref a_)]))) st67 ?_
        exact own_retAW hS X61 (by rw [show T57.heap = T57.heap from rfl]; exact (Nat.zero_le _)) hx hlk Bd.returns rfl rfl rfl (hb hby d10_53) ⟨N70, O_, Z_, _, rfl, E_⟩ (by decide) (by decide)
      · obtain ⟨_, _, ⟨T71, L72, k73, n74⟩, -, X75, ⟨Lc76, hQ77, l78, y79, z80⟩, st81⟩ := Jvm.LawKit.callS X0 hx (y := (⟨"java/lang/String", "valueOf", "(C)Ljava/lang/String;"⟩ : MethodName)) hown (mvT hZ (hw _ (List.mem_of_getElem? (i := 149) rfl))) (mvT hZ (hw _ (List.mem_of_getElem? (i := 150) rfl))) (mvT hZ (hw _ (List.mem_of_getElem? (i := 96) rfl))) (mvT hZ (hw _ (List.mem_of_getElem? (i := 151) rfl))) (by decide) (backOf (W := 0) (rmVal0 l Z a0 hw [] ((v1 &&& (65535 : Int32)).toUInt32.toUInt16.toUInt32.toInt32) cz h0 n0 Z0 O SU hc56) hZ (hw _ (List.mem_of_getElem? (i := 151) rfl)) (hw _ (List.mem_of_getElem? (i := 96) rfl)) (by decide) (by decide)) (g := (mkF m 50 #[iv v0, iv v1, iv v2, iv v3, iv (v0 &&& (3 : Int32)), iv ((v1 &&& (65535 : Int32)).toUInt32.toUInt16.toUInt32.toInt32), iv ((v2 &&& (65535 : Int32)).toUInt32.toUInt16.toUInt32.toInt32), iv ((v3 &&& (65535 : Int32)).toUInt32.toUInt16.toUInt32.toInt32), .unset] [(.int ((v1 &&& (65535 : Int32)).toUInt32.toUInt16.toUInt32.toInt32))])) rfl (by rw [hml]; rfl) (argsL := [(.int ((v1 &&& (65535 : Int32)).toUInt32.toUInt16.toUInt32.toInt32))]) (rest := []) (lenOf (by decide +kernel : parseMethodDescriptor "(C)Ljava/lang/String;" = some ⟨[.char], some (.object "java/lang/String")⟩) rfl) rfl (by show 2 * 0 + _ ≤ _; exact Nat.le_of_eq rfl) (hb hby d10_50) (fun _ _ => ⟨rfl, e0, (by decide : 0 + 2 ≤ _), (by decide : 0 + 6 ≤ _)⟩)
        dsimp only [Pt.U, Pt.locs, Pt.cells, Pt.slots] at X75 l78 y79 z80 st81 hQ77
        subst l78 y79 z80
        obtain ⟨N82, O_, Z_, a_, rfl, E_⟩ := hQ77
        have N84 := Fr.app N0 N82
        refine own_bk (S' := (T71.setTop (mkF m 53 #[iv v0, iv v1, iv v2, iv v3, iv (v0 &&& (3 : Int32)), iv ((v1 &&& (65535 : Int32)).toUInt32.toUInt16.toUInt32.toInt32), iv ((v2 &&& (65535 : Int32)).toUInt32.toUInt16.toUInt32.toInt32), iv ((v3 &&& (65535 : Int32)).toUInt32.toUInt16.toUInt32.toInt32), .unset] [(.ref a_)]))) st81 ?_
        exact own_retAW hS X75 (by rw [show T71.heap = T71.heap from rfl]; exact (Nat.zero_le _)) hx hlk Bd.returns rfl rfl rfl (hb hby d10_53) ⟨N84, O_, Z_, _, rfl, E_⟩ (by decide) (by decide)
    · refine own_bk (S' := (s₁.setTop (mkF m 54 #[iv v0, iv v1, iv v2, iv v3, iv (v0 &&& (3 : Int32)), iv ((v1 &&& (65535 : Int32)).toUInt32.toUInt16.toUInt32.toInt32), iv ((v2 &&& (65535 : Int32)).toUInt32.toUInt16.toUInt32.toInt32), iv ((v3 &&& (65535 : Int32)).toUInt32.toUInt16.toUInt32.toInt32), .unset] []))) (fun t_ kont => XS.icmpYes X0.here hx rfl (pc0 := 45) (pc' := 54) rfl (hb hby d10_45) rfl (feq (hc55)).2 (by decide) (by decide) kont) ?_
      refine own_bk (S' := (s₁.setTop (mkF m 56 #[iv v0, iv v1, iv v2, iv v3, iv (v0 &&& (3 : Int32)), iv ((v1 &&& (65535 : Int32)).toUInt32.toUInt16.toUInt32.toInt32), iv ((v2 &&& (65535 : Int32)).toUInt32.toUInt16.toUInt32.toInt32), iv ((v3 &&& (65535 : Int32)).toUInt32.toUInt16.toUInt32.toInt32), .unset] [(.int (v0 &&& (3 : Int32)))]))) (fun t_ kont => XS.iload X0.here hx rfl (hb hby d10_54) rfl kont) ?_
      refine own_bk (S' := (s₁.setTop (mkF m 57 #[iv v0, iv v1, iv v2, iv v3, iv (v0 &&& (3 : Int32)), iv ((v1 &&& (65535 : Int32)).toUInt32.toUInt16.toUInt32.toInt32), iv ((v2 &&& (65535 : Int32)).toUInt32.toUInt16.toUInt32.toInt32), iv ((v3 &&& (65535 : Int32)).toUInt32.toUInt16.toUInt32.toInt32), .unset] [(.int (2 : Int32)), (.int (v0 &&& (3 : Int32)))]))) (fun t_ kont => XS.iconst X0.here hx rfl (hb hby d10_56) kont) ?_
      by_cases hc85 : ((v0 &&& (3 : Int32))) = ((2 : Int32))
      · refine own_bk (S' := (s₁.setTop (mkF m 60 #[iv v0, iv v1, iv v2, iv v3, iv (v0 &&& (3 : Int32)), iv ((v1 &&& (65535 : Int32)).toUInt32.toUInt16.toUInt32.toInt32), iv ((v2 &&& (65535 : Int32)).toUInt32.toUInt16.toUInt32.toInt32), iv ((v3 &&& (65535 : Int32)).toUInt32.toUInt16.toUInt32.toInt32), .unset] []))) (fun t_ kont => XS.icmpNo X0.here hx rfl (hb hby d10_57) rfl (teq (hc85)).2 kont) ?_
        refine own_bk (S' := (s₁.setTop (mkF m 61 #[iv v0, iv v1, iv v2, iv v3, iv (v0 &&& (3 : Int32)), iv ((v1 &&& (65535 : Int32)).toUInt32.toUInt16.toUInt32.toInt32), iv ((v2 &&& (65535 : Int32)).toUInt32.toUInt16.toUInt32.toInt32), iv ((v3 &&& (65535 : Int32)).toUInt32.toUInt16.toUInt32.toInt32), .unset] [(.int (2 : Int32))]))) (fun t_ kont => XS.iconst X0.here hx rfl (hb hby d10_60) kont) ?_
        obtain ⟨T86, h87, k88, X89, e90, E91, A92, st93⟩ := newP X0 hx hZ (hw _ (List.mem_of_getElem? (i := 97) rfl)) e0 (g := (mkF m 61 #[iv v0, iv v1, iv v2, iv v3, iv (v0 &&& (3 : Int32)), iv ((v1 &&& (65535 : Int32)).toUInt32.toUInt16.toUInt32.toInt32), iv ((v2 &&& (65535 : Int32)).toUInt32.toUInt16.toUInt32.toInt32), iv ((v3 &&& (65535 : Int32)).toUInt32.toUInt16.toUInt32.toInt32), .unset] [(.int (2 : Int32))])) rfl (hb hby d10_61) rfl (by decide : ¬ ((2 : Int32) < (0 : Int32))) (cap := 2) (by decide : (2 : Int32).toNatClampNeg ≤ 2) (by decide) (by decide) (by decide)
        obtain ⟨a94, g95⟩ : ∃ z, z = h0.size := ⟨_, rfl⟩
        rw [← g95] at A92 st93
        have ag97 : n0 ≤ a94 := Nat.le_trans Z0 (Nat.le_of_eq g95.symm)
        have Z98 := Nat.le_trans Z0 E91.1
        have hk99 := Nat.le_trans hk0 E91.1
        have O100 := O.ext E91
        have CH101 := CHv.ext E91 hCH
        have V96 : Arv Z h87 a94 k88 .char (2 : Int32) [] (.int (0 : Int32)) := (Arv.new A92 (by decide : ¬ ((2 : Int32) < (0 : Int32))))
        have V102 : Arv Z h87 a94 k88 .char (2 : Int32) [(.int (0 : Int32)), (.int (0 : Int32))] (.int (0 : Int32)) := (V96.pad (pad_rep [] (.int (0 : Int32)) 2))
        refine own_bk (S' := (T86.setTop (mkF m 63 #[iv v0, iv v1, iv v2, iv v3, iv (v0 &&& (3 : Int32)), iv ((v1 &&& (65535 : Int32)).toUInt32.toUInt16.toUInt32.toInt32), iv ((v2 &&& (65535 : Int32)).toUInt32.toUInt16.toUInt32.toInt32), iv ((v3 &&& (65535 : Int32)).toUInt32.toUInt16.toUInt32.toInt32), .unset] [(.ref a94)]))) st93 ?_
        refine own_bk (S' := (T86.setTop (mkF m 65 #[iv v0, iv v1, iv v2, iv v3, iv (v0 &&& (3 : Int32)), iv ((v1 &&& (65535 : Int32)).toUInt32.toUInt16.toUInt32.toInt32), iv ((v2 &&& (65535 : Int32)).toUInt32.toUInt16.toUInt32.toInt32), iv ((v3 &&& (65535 : Int32)).toUInt32.toUInt16.toUInt32.toInt32), rv a94] []))) (fun t_ kont => XS.astore X89.here hx rfl (hb hby d10_63) rfl rfl (l' := #[iv v0, iv v1, iv v2, iv v3, iv (v0 &&& (3 : Int32)), iv ((v1 &&& (65535 : Int32)).toUInt32.toUInt16.toUInt32.toInt32), iv ((v2 &&& (65535 : Int32)).toUInt32.toUInt16.toUInt32.toInt32), iv ((v3 &&& (65535 : Int32)).toUInt32.toUInt16.toUInt32.toInt32), rv a94]) rfl kont) ?_
        refine own_bk (S' := (T86.setTop (mkF m 67 #[iv v0, iv v1, iv v2, iv v3, iv (v0 &&& (3 : Int32)), iv ((v1 &&& (65535 : Int32)).toUInt32.toUInt16.toUInt32.toInt32), iv ((v2 &&& (65535 : Int32)).toUInt32.toUInt16.toUInt32.toInt32), iv ((v3 &&& (65535 : Int32)).toUInt32.toUInt16.toUInt32.toInt32), rv a94] [(.ref a94)]))) (fun t_ kont => XS.aload X89.here hx rfl (hb hby d10_65) rfl rfl kont) ?_
        refine own_bk (S' := (T86.setTop (mkF m 68 #[iv v0, iv v1, iv v2, iv v3, iv (v0 &&& (3 : Int32)), iv ((v1 &&& (65535 : Int32)).toUInt32.toUInt16.toUInt32.toInt32), iv ((v2 &&& (65535 : Int32)).toUInt32.toUInt16.toUInt32.toInt32), iv ((v3 &&& (65535 : Int32)).toUInt32.toUInt16.toUInt32.toInt32), rv a94] [(.int (0 : Int32)), (.ref a94)]))) (fun t_ kont => XS.iconst X89.here hx rfl (hb hby d10_67) kont) ?_
        refine own_bk (S' := (T86.setTop (mkF m 70 #[iv v0, iv v1, iv v2, iv v3, iv (v0 &&& (3 : Int32)), iv ((v1 &&& (65535 : Int32)).toUInt32.toUInt16.toUInt32.toInt32), iv ((v2 &&& (65535 : Int32)).toUInt32.toUInt16.toUInt32.toInt32), iv ((v3 &&& (65535 : Int32)).toUInt32.toUInt16.toUInt32.toInt32), rv a94] [(.int ((v1 &&& (65535 : Int32)).toUInt32.toUInt16.toUInt32.toInt32)), (.int (0 : Int32)), (.ref a94)]))) (fun t_ kont => XS.iload X89.here hx rfl (hb hby d10_68) rfl kont) ?_
        obtain ⟨c103, A104, q105, S106, M107, H108, U109⟩ := id V102
        obtain ⟨T110, h111, X112, e113, W114, st115⟩ := stC X89 hx hZ e90 A104 (j := (0 : Int32)) (inb_of S106 ⟨(by decide : ¬ ((0 : Int32) < (0 : Int32))), (by decide : (0 : Int32) < (2 : Int32))⟩) (g := (mkF m 70 #[iv v0, iv v1, iv v2, iv v3, iv (v0 &&& (3 : Int32)), iv ((v1 &&& (65535 : Int32)).toUInt32.toUInt16.toUInt32.toInt32), iv ((v2 &&& (65535 : Int32)).toUInt32.toUInt16.toUInt32.toInt32), iv ((v3 &&& (65535 : Int32)).toUInt32.toUInt16.toUInt32.toInt32), rv a94] [(.int ((v1 &&& (65535 : Int32)).toUInt32.toUInt16.toUInt32.toInt32)), (.int (0 : Int32)), (.ref a94)])) rfl rfl (hb hby d10_70)
        have N116 := Fr.snoc X112 N0 ag97
        have Z117 := Nat.le_trans Z98 (Keep.of_wr W114).1
        have hk118 := Nat.le_trans hk99 (Keep.of_wr W114).1
        have O119 := O100.wr W114 ag97
        have V120 : Arv Z h111 a94 k88 .char (2 : Int32) [(.int (nar .char ((v1 &&& (65535 : Int32)).toUInt32.toUInt16.toUInt32.toInt32))), (.int (0 : Int32))] (.int (0 : Int32)) := (Arv.set A104 q105 S106 M107 H108 U109 (fits_nar_char _) W114 0 rfl (Nat.le_of_ble_eq_true rfl))
        refine own_bk (S' := (T110.setTop (mkF m 71 #[iv v0, iv v1, iv v2, iv v3, iv (v0 &&& (3 : Int32)), iv ((v1 &&& (65535 : Int32)).toUInt32.toUInt16.toUInt32.toInt32), iv ((v2 &&& (65535 : Int32)).toUInt32.toUInt16.toUInt32.toInt32), iv ((v3 &&& (65535 : Int32)).toUInt32.toUInt16.toUInt32.toInt32), rv a94] []))) st115 ?_
        refine own_bk (S' := (T110.setTop (mkF m 73 #[iv v0, iv v1, iv v2, iv v3, iv (v0 &&& (3 : Int32)), iv ((v1 &&& (65535 : Int32)).toUInt32.toUInt16.toUInt32.toInt32), iv ((v2 &&& (65535 : Int32)).toUInt32.toUInt16.toUInt32.toInt32), iv ((v3 &&& (65535 : Int32)).toUInt32.toUInt16.toUInt32.toInt32), rv a94] [(.ref a94)]))) (fun t_ kont => XS.aload X112.here hx rfl (hb hby d10_71) rfl rfl kont) ?_
        refine own_bk (S' := (T110.setTop (mkF m 74 #[iv v0, iv v1, iv v2, iv v3, iv (v0 &&& (3 : Int32)), iv ((v1 &&& (65535 : Int32)).toUInt32.toUInt16.toUInt32.toInt32), iv ((v2 &&& (65535 : Int32)).toUInt32.toUInt16.toUInt32.toInt32), iv ((v3 &&& (65535 : Int32)).toUInt32.toUInt16.toUInt32.toInt32), rv a94] [(.int (1 : Int32)), (.ref a94)]))) (fun t_ kont => XS.iconst X112.here hx rfl (hb hby d10_73) kont) ?_
        refine own_bk (S' := (T110.setTop (mkF m 76 #[iv v0, iv v1, iv v2, iv v3, iv (v0 &&& (3 : Int32)), iv ((v1 &&& (65535 : Int32)).toUInt32.toUInt16.toUInt32.toInt32), iv ((v2 &&& (65535 : Int32)).toUInt32.toUInt16.toUInt32.toInt32), iv ((v3 &&& (65535 : Int32)).toUInt32.toUInt16.toUInt32.toInt32), rv a94] [(.int ((v2 &&& (65535 : Int32)).toUInt32.toUInt16.toUInt32.toInt32)), (.int (1 : Int32)), (.ref a94)]))) (fun t_ kont => XS.iload X112.here hx rfl (hb hby d10_74) rfl kont) ?_
        obtain ⟨c121, A122, q123, S124, M125, H126, U127⟩ := id V120
        obtain ⟨T128, h129, X130, e131, W132, st133⟩ := stC X112 hx hZ e113 A122 (j := (1 : Int32)) (inb_of S124 ⟨(by decide : ¬ ((1 : Int32) < (0 : Int32))), (by decide : (1 : Int32) < (2 : Int32))⟩) (g := (mkF m 76 #[iv v0, iv v1, iv v2, iv v3, iv (v0 &&& (3 : Int32)), iv ((v1 &&& (65535 : Int32)).toUInt32.toUInt16.toUInt32.toInt32), iv ((v2 &&& (65535 : Int32)).toUInt32.toUInt16.toUInt32.toInt32), iv ((v3 &&& (65535 : Int32)).toUInt32.toUInt16.toUInt32.toInt32), rv a94] [(.int ((v2 &&& (65535 : Int32)).toUInt32.toUInt16.toUInt32.toInt32)), (.int (1 : Int32)), (.ref a94)])) rfl rfl (hb hby d10_76)
        have N134 := Fr.snoc X130 N116 ag97
        have Z135 := Nat.le_trans Z117 (Keep.of_wr W132).1
        have hk136 := Nat.le_trans hk118 (Keep.of_wr W132).1
        have O137 := O119.wr W132 ag97
        have V138 : Arv Z h129 a94 k88 .char (2 : Int32) [(.int (nar .char ((v1 &&& (65535 : Int32)).toUInt32.toUInt16.toUInt32.toInt32))), (.int (nar .char ((v2 &&& (65535 : Int32)).toUInt32.toUInt16.toUInt32.toInt32)))] (.int (0 : Int32)) := (Arv.set A122 q123 S124 M125 H126 U127 (fits_nar_char _) W132 1 rfl (Nat.le_of_ble_eq_true rfl))
        refine own_bk (S' := (T128.setTop (mkF m 77 #[iv v0, iv v1, iv v2, iv v3, iv (v0 &&& (3 : Int32)), iv ((v1 &&& (65535 : Int32)).toUInt32.toUInt16.toUInt32.toInt32), iv ((v2 &&& (65535 : Int32)).toUInt32.toUInt16.toUInt32.toInt32), iv ((v3 &&& (65535 : Int32)).toUInt32.toUInt16.toUInt32.toInt32), rv a94] []))) st133 ?_
        obtain ⟨T139, h140, X141, e142, E143, A144, D145, -, st146⟩ := newO X130 hx hZ hown (hw _ (List.mem_of_getElem? (i := 94) rfl)) (hw _ (List.mem_of_getElem? (i := 95) rfl)) (hw _ (List.mem_of_getElem? (i := 96) rfl)) e131 (g := (mkF m 77 #[iv v0, iv v1, iv v2, iv v3, iv (v0 &&& (3 : Int32)), iv ((v1 &&& (65535 : Int32)).toUInt32.toUInt16.toUInt32.toInt32), iv ((v2 &&& (65535 : Int32)).toUInt32.toUInt16.toUInt32.toInt32), iv ((v3 &&& (65535 : Int32)).toUInt32.toUInt16.toUInt32.toInt32), rv a94] [])) rfl (hb hby d10_77) (by decide) (by decide)
        obtain ⟨a147, g148⟩ : ∃ z, z = h129.size := ⟨_, rfl⟩
        rw [← g148] at A144 D145 st146
        have ne149 : a94 ≠ a147 := Nat.ne_of_lt (Nat.lt_of_lt_of_le V138.lt (Nat.le_of_eq g148.symm))
        have ag150 : n0 ≤ a147 := Nat.le_trans Z135 (Nat.le_of_eq g148.symm)
        have V151 := (V138.ext E143)
        have Z152 := Nat.le_trans Z135 E143.1
        have hk153 := Nat.le_trans hk136 E143.1
        have O154 := O137.ext E143
        have F155 : Fld Z h140 a147 "java/lang/String" "value" "[B" .null := (D145 (Or.inr (hw _ (List.mem_of_getElem? (i := 108) rfl))) (ty := (.array .byte)) (by decide +kernel))
        have F156 : Fld Z h140 a147 "java/lang/String" "coder" "B" (.int (0 : Int32)) := (D145 (Or.inr (hw _ (List.mem_of_getElem? (i := 109) rfl))) (ty := .byte) (by decide +kernel))
        refine own_bk (S' := (T139.setTop (mkF m 80 #[iv v0, iv v1, iv v2, iv v3, iv (v0 &&& (3 : Int32)), iv ((v1 &&& (65535 : Int32)).toUInt32.toUInt16.toUInt32.toInt32), iv ((v2 &&& (65535 : Int32)).toUInt32.toUInt16.toUInt32.toInt32), iv ((v3 &&& (65535 : Int32)).toUInt32.toUInt16.toUInt32.toInt32), rv a94] [(.ref a147)]))) st146 ?_
        refine own_bk (S' := (T139.setTop (mkF m 81 #[iv v0, iv v1, iv v2, iv v3, iv (v0 &&& (3 : Int32)), iv ((v1 &&& (65535 : Int32)).toUInt32.toUInt16.toUInt32.toInt32), iv ((v2 &&& (65535 : Int32)).toUInt32.toUInt16.toUInt32.toInt32), iv ((v3 &&& (65535 : Int32)).toUInt32.toUInt16.toUInt32.toInt32), rv a94] [(.ref a147), (.ref a147)]))) (fun t_ kont => XS.dup X141.here hx rfl (hb hby d10_80) rfl rfl kont) ?_
        refine own_bk (S' := (T139.setTop (mkF m 83 #[iv v0, iv v1, iv v2, iv v3, iv (v0 &&& (3 : Int32)), iv ((v1 &&& (65535 : Int32)).toUInt32.toUInt16.toUInt32.toInt32), iv ((v2 &&& (65535 : Int32)).toUInt32.toUInt16.toUInt32.toInt32), iv ((v3 &&& (65535 : Int32)).toUInt32.toUInt16.toUInt32.toInt32), rv a94] [(.ref a94), (.ref a147), (.ref a147)]))) (fun t_ kont => XS.aload X141.here hx rfl (hb hby d10_81) rfl rfl kont) ?_
        have rq157 := own_i2c (v1 &&& (65535 : Int32))
        have rq158 := own_i2c (v2 &&& (65535 : Int32))
        by_cases hc159 : (255 : Int32) < (nar .char ((v1 &&& (65535 : Int32)).toUInt32.toUInt16.toUInt32.toInt32))
        · obtain ⟨_, _, ⟨T160, L161, k162, n163⟩, -, X164, ⟨Lc165, hQ166, l167, y168, z169⟩, st170⟩ := X141.specialBack hx (y := (⟨"java/lang/String", "<init>", "([C)V"⟩ : MethodName)) rfl hown (mvT hZ (hw _ (List.mem_of_getElem? (i := 98) rfl))) (mvT hZ (hw _ (List.mem_of_getElem? (i := 99) rfl))) (mvT hZ (hw _ (List.mem_of_getElem? (i := 100) rfl))) (by decide) (backOf (W := 1) (rmI120 l Z a0 hw [] a147 a94 k88 (nar .char ((v1 &&& (65535 : Int32)).toUInt32.toUInt16.toUInt32.toInt32)) (nar .char ((v2 &&& (65535 : Int32)).toUInt32.toUInt16.toUInt32.toInt32)) cz h140 n0 Z152 O154 SU V151 A144 ag150 F155 F156 rq157.1 rq157.2 rq158.1 rq158.2 hc159) hZ (hw _ (List.mem_of_getElem? (i := 100) rfl)) (hw _ (List.mem_of_getElem? (i := 96) rfl)) (by decide) (by decide)) (g := (mkF m 83 #[iv v0, iv v1, iv v2, iv v3, iv (v0 &&& (3 : Int32)), iv ((v1 &&& (65535 : Int32)).toUInt32.toUInt16.toUInt32.toInt32), iv ((v2 &&& (65535 : Int32)).toUInt32.toUInt16.toUInt32.toInt32), iv ((v3 &&& (65535 : Int32)).toUInt32.toUInt16.toUInt32.toInt32), rv a94] [(.ref a94), (.ref a147), (.ref a147)])) rfl (by rw [hml]; rfl) (Steps.refl _) (a := a147) (argsL := [(.ref a94)]) (rest := [(.ref a147)]) (lenOf (by decide +kernel : parseMethodDescriptor "([C)V" = some ⟨[(.array .char)], none⟩) rfl) rfl (by show 2 * 0 + _ ≤ _; exact Nat.le_of_eq rfl) (hb hby d10_83) (fun _ _ => ⟨rfl, e142, (by decide : 2 + 2 ≤ _), (by decide : 6 + 9 ≤ _)⟩)
          dsimp only [Pt.U, Pt.locs, Pt.cells, Pt.slots] at X164 l167 y168 z169 st170 hQ166
          subst l167 y168 z169
          obtain ⟨rfl, N171, O_, Z_, E_⟩ := hQ166
          have N173 := Fr.app N134 N171
          refine own_tr (S' := (T160.setTop (mkF m 86 #[iv v0, iv v1, iv v2, iv v3, iv (v0 &&& (3 : Int32)), iv ((v1 &&& (65535 : Int32)).toUInt32.toUInt16.toUInt32.toInt32), iv ((v2 &&& (65535 : Int32)).toUInt32.toUInt16.toUInt32.toInt32), iv ((v3 &&& (65535 : Int32)).toUInt32.toUInt16.toUInt32.toInt32), rv a94] [(.ref a147)]))) st170 ?_
          exact own_retAW hS X164 (by rw [show T160.heap = T160.heap from rfl]; exact (Nat.zero_le _)) hx hlk Bd.returns rfl rfl rfl (hb hby d10_86) ⟨N173, O_, Z_, _, rfl, E_⟩ (by decide) (by decide)
        · by_cases hc174 : (255 : Int32) < (nar .char ((v2 &&& (65535 : Int32)).toUInt32.toUInt16.toUInt32.toInt32))
          · obtain ⟨_, _, ⟨T175, L176, k177, n178⟩, -, X179, ⟨Lc180, hQ181, l182, y183, z184⟩, st185⟩ := X141.specialBack hx (y := (⟨"java/lang/String", "<init>", "([C)V"⟩ : MethodName)) rfl hown (mvT hZ (hw _ (List.mem_of_getElem? (i := 98) rfl))) (mvT hZ (hw _ (List.mem_of_getElem? (i := 99) rfl))) (mvT hZ (hw _ (List.mem_of_getElem? (i := 100) rfl))) (by decide) (backOf (W := 1) (rmI121 l Z a0 hw [] a147 a94 k88 (nar .char ((v1 &&& (65535 : Int32)).toUInt32.toUInt16.toUInt32.toInt32)) (nar .char ((v2 &&& (65535 : Int32)).toUInt32.toUInt16.toUInt32.toInt32)) cz h140 n0 Z152 O154 SU V151 A144 ag150 F155 F156 rq157.1 rq157.2 rq158.1 rq158.2 hc159 hc174) hZ (hw _ (List.mem_of_getElem? (i := 100) rfl)) (hw _ (List.mem_of_getElem? (i := 96) rfl)) (by decide) (by decide)) (g := (mkF m 83 #[iv v0, iv v1, iv v2, iv v3, iv (v0 &&& (3 : Int32)), iv ((v1 &&& (65535 : Int32)).toUInt32.toUInt16.toUInt32.toInt32), iv ((v2 &&& (65535 : Int32)).toUInt32.toUInt16.toUInt32.toInt32), iv ((v3 &&& (65535 : Int32)).toUInt32.toUInt16.toUInt32.toInt32), rv a94] [(.ref a94), (.ref a147), (.ref a147)])) rfl (by rw [hml]; rfl) (Steps.refl _) (a := a147) (argsL := [(.ref a94)]) (rest := [(.ref a147)]) (lenOf (by decide +kernel : parseMethodDescriptor "([C)V" = some ⟨[(.array .char)], none⟩) rfl) rfl (by show 2 * 0 + _ ≤ _; exact Nat.le_of_eq rfl) (hb hby d10_83) (fun _ _ => ⟨rfl, e142, (by decide : 2 + 2 ≤ _), (by decide : 6 + 9 ≤ _)⟩)
            dsimp only [Pt.U, Pt.locs, Pt.cells, Pt.slots] at X179 l182 y183 z184 st185 hQ181
            subst l182 y183 z184
            obtain ⟨rfl, N186, O_, Z_, E_⟩ := hQ181
            have N188 := Fr.app N134 N186
            refine own_tr (S' := (T175.setTop (mkF m 86 #[iv v0, iv v1, iv v2, iv v3, iv (v0 &&& (3 : Int32)), iv ((v1 &&& (65535 : Int32)).toUInt32.toUInt16.toUInt32.toInt32), iv ((v2 &&& (65535 : Int32)).toUInt32.toUInt16.toUInt32.toInt32), iv ((v3 &&& (65535 : Int32)).toUInt32.toUInt16.toUInt32.toInt32), rv a94] [(.ref a147)]))) st185 ?_
            exact own_retAW hS X179 (by rw [show T175.heap = T175.heap from rfl]; exact (Nat.zero_le _)) hx hlk Bd.returns rfl rfl rfl (hb hby d10_86) ⟨N188, O_, Z_, _, rfl, E_⟩ (by decide) (by decide)
          · obtain ⟨_, _, ⟨T189, L190, k191, n192⟩, -, X193, ⟨Lc194, hQ195, l196, y197, z198⟩, st199⟩ := X141.specialBack hx (y := (⟨"java/lang/String", "<init>", "([C)V"⟩ : MethodName)) rfl hown (mvT hZ (hw _ (List.mem_of_getElem? (i := 98) rfl))) (mvT hZ (hw _ (List.mem_of_getElem? (i := 99) rfl))) (mvT hZ (hw _ (List.mem_of_getElem? (i := 100) rfl))) (by decide) (backOf (W := 1) (rmI122 l Z a0 hw [] a147 a94 k88 (nar .char ((v1 &&& (65535 : Int32)).toUInt32.toUInt16.toUInt32.toInt32)) (nar .char ((v2 &&& (65535 : Int32)).toUInt32.toUInt16.toUInt32.toInt32)) cz h140 n0 Z152 O154 SU V151 A144 ag150 F155 F156 rq157.1 rq157.2 rq158.1 rq158.2 hc159 hc174) hZ (hw _ (List.mem_of_getElem? (i := 100) rfl)) (hw _ (List.mem_of_getElem? (i := 96) rfl)) (by decide) (by decide)) (g := (mkF m 83 #[iv v0, iv v1, iv v2, iv v3, iv (v0 &&& (3 : Int32)), iv ((v1 &&& (65535 : Int32)).toUInt32.toUInt16.toUInt32.toInt32), iv ((v2 &&& (65535 : Int32)).toUInt32.toUInt16.toUInt32.toInt32), iv ((v3 &&& (65535 : Int32)).toUInt32.toUInt16.toUInt32.toInt32), rv a94] [(.ref a94), (.ref a147), (.ref a147)])) rfl (by rw [hml]; rfl) (Steps.refl _) (a := a147) (argsL := [(.ref a94)]) (rest := [(.ref a147)]) (lenOf (by decide +kernel : parseMethodDescriptor "([C)V" = some ⟨[(.array .char)], none⟩) rfl) rfl (by show 2 * 0 + _ ≤ _; exact Nat.le_of_eq rfl) (hb hby d10_83) (fun _ _ => ⟨rfl, e142, (by decide : 2 + 2 ≤ _), (by decide : 6 + 9 ≤ _)⟩)
            dsimp only [Pt.U, Pt.locs, Pt.cells, Pt.slots] at X193 l196 y197 z198 st199 hQ195
            subst l196 y197 z198
            obtain ⟨rfl, N200, O_, Z_, E_⟩ := hQ195
            have N202 := Fr.app N134 N200
            refine own_tr (S' := (T189.setTop (mkF m 86 #[iv v0, iv v1, iv v2, iv v3, iv (v0 &&& (3 : Int32)), iv ((v1 &&& (65535 : Int32)).toUInt32.toUInt16.toUInt32.toInt32), iv ((v2 &&& (65535 : Int32)).toUInt32.toUInt16.toUInt32.toInt32), iv ((v3 &&& (65535 : Int32)).toUInt32.toUInt16.toUInt32.toInt32), rv a94] [(.ref a147)]))) st199 ?_
            exact own_retAW hS X193 (by rw [show T189.heap = T189.heap from rfl]; exact (Nat.zero_le _)) hx hlk Bd.returns rfl rfl rfl (hb hby d10_86) ⟨N202, O_, Z_, _, rfl, E_⟩ (by decide) (by decide)
      · refine own_bk (S' := (s₁.setTop (mkF m 87 #[iv v0, iv v1, iv v2, iv v3, iv (v0 &&& (3 : Int32)), iv ((v1 &&& (65535 : Int32)).toUInt32.toUInt16.toUInt32.toInt32), iv ((v2 &&& (65535 : Int32)).toUInt32.toUInt16.toUInt32.toInt32), iv ((v3 &&& (65535 : Int32)).toUInt32.toUInt16.toUInt32.toInt32), .unset] []))) (fun t_ kont => XS.icmpYes X0.here hx rfl (pc0 := 57) (pc' := 87) rfl (hb hby d10_57) rfl (feq (hc85)).2 (by decide) (by decide) kont) ?_
        refine own_bk (S' := (s₁.setTop (mkF m 88 #[iv v0, iv v1, iv v2, iv v3, iv (v0 &&& (3 : Int32)), iv ((v1 &&& (65535 : Int32)).toUInt32.toUInt16.toUInt32.toInt32), iv ((v2 &&& (65535 : Int32)).toUInt32.toUInt16.toUInt32.toInt32), iv ((v3 &&& (65535 : Int32)).toUInt32.toUInt16.toUInt32.toInt32), .unset] [(.int (3 : Int32))]))) (fun t_ kont => XS.iconst X0.here hx rfl (hb hby d10_87) kont) ?_
        obtain ⟨T203, h204, k205, X206, e207, E208, A209, st210⟩ := newP X0 hx hZ (hw _ (List.mem_of_getElem? (i := 97) rfl)) e0 (g := (mkF m 88 #[iv v0, iv v1, iv v2, iv v3, iv (v0 &&& (3 : Int32)), iv ((v1 &&& (65535 : Int32)).toUInt32.toUInt16.toUInt32.toInt32), iv ((v2 &&& (65535 : Int32)).toUInt32.toUInt16.toUInt32.toInt32), iv ((v3 &&& (65535 : Int32)).toUInt32.toUInt16.toUInt32.toInt32), .unset] [(.int (3 : Int32))])) rfl (hb hby d10_88) rfl (by decide : ¬ ((3 : Int32) < (0 : Int32))) (cap := 3) (by decide : (3 : Int32).toNatClampNeg ≤ 3) (by decide) (by decide) (by decide)
        obtain ⟨a211, g212⟩ : ∃ z, z = h0.size := ⟨_, rfl⟩
        rw [← g212] at A209 st210
        have ag214 : n0 ≤ a211 := Nat.le_trans Z0 (Nat.le_of_eq g212.symm)
        have Z215 := Nat.le_trans Z0 E208.1
        have hk216 := Nat.le_trans hk0 E208.1
        have O217 := O.ext E208
        have CH218 := CHv.ext E208 hCH
        have V213 : Arv Z h204 a211 k205 .char (3 : Int32) [] (.int (0 : Int32)) := (Arv.new A209 (by decide : ¬ ((3 : Int32) < (0 : Int32))))
        have V219 : Arv Z h204 a211 k205 .char (3 : Int32) [(.int (0 : Int32)), (.int (0 : Int32)), (.int (0 : Int32))] (.int (0 : Int32)) := (V213.pad (pad_rep [] (.int (0 : Int32)) 3))
        refine own_bk (S' := (T203.setTop (mkF m 90 #[iv v0, iv v1, iv v2, iv v3, iv (v0 &&& (3 : Int32)), iv ((v1 &&& (65535 : Int32)).toUInt32.toUInt16.toUInt32.toInt32), iv ((v2 &&& (65535 : Int32)).toUInt32.toUInt16.toUInt32.toInt32), iv ((v3 &&& (65535 : Int32)).toUInt32.toUInt16.toUInt32.toInt32), .unset] [(.ref a211)]))) st210 ?_
        refine own_bk (S' := (T203.setTop (mkF m 92 #[iv v0, iv v1, iv v2, iv v3, iv (v0 &&& (3 : Int32)), iv ((v1 &&& (65535 : Int32)).toUInt32.toUInt16.toUInt32.toInt32), iv ((v2 &&& (65535 : Int32)).toUInt32.toUInt16.toUInt32.toInt32), iv ((v3 &&& (65535 : Int32)).toUInt32.toUInt16.toUInt32.toInt32), rv a211] []))) (fun t_ kont => XS.astore X206.here hx rfl (hb hby d10_90) rfl rfl (l' := #[iv v0, iv v1, iv v2, iv v3, iv (v0 &&& (3 : Int32)), iv ((v1 &&& (65535 : Int32)).toUInt32.toUInt16.toUInt32.toInt32), iv ((v2 &&& (65535 : Int32)).toUInt32.toUInt16.toUInt32.toInt32), iv ((v3 &&& (65535 : Int32)).toUInt32.toUInt16.toUInt32.toInt32), rv a211]) rfl kont) ?_
        refine own_bk (S' := (T203.setTop (mkF m 94 #[iv v0, iv v1, iv v2, iv v3, iv (v0 &&& (3 : Int32)), iv ((v1 &&& (65535 : Int32)).toUInt32.toUInt16.toUInt32.toInt32), iv ((v2 &&& (65535 : Int32)).toUInt32.toUInt16.toUInt32.toInt32), iv ((v3 &&& (65535 : Int32)).toUInt32.toUInt16.toUInt32.toInt32), rv a211] [(.ref a211)]))) (fun t_ kont => XS.aload X206.here hx rfl (hb hby d10_92) rfl rfl kont) ?_
        refine own_bk (S' := (T203.setTop (mkF m 95 #[iv v0, iv v1, iv v2, iv v3, iv (v0 &&& (3 : Int32)), iv ((v1 &&& (65535 : Int32)).toUInt32.toUInt16.toUInt32.toInt32), iv ((v2 &&& (65535 : Int32)).toUInt32.toUInt16.toUInt32.toInt32), iv ((v3 &&& (65535 : Int32)).toUInt32.toUInt16.toUInt32.toInt32), rv a211] [(.int (0 : Int32)), (.ref a211)]))) (fun t_ kont => XS.iconst X206.here hx rfl (hb hby d10_94) kont) ?_
        refine own_bk (S' := (T203.setTop (mkF m 97 #[iv v0, iv v1, iv v2, iv v3, iv (v0 &&& (3 : Int32)), iv ((v1 &&& (65535 : Int32)).toUInt32.toUInt16.toUInt32.toInt32), iv ((v2 &&& (65535 : Int32)).toUInt32.toUInt16.toUInt32.toInt32), iv ((v3 &&& (65535 : Int32)).toUInt32.toUInt16.toUInt32.toInt32), rv a211] [(.int ((v1 &&& (65535 : Int32)).toUInt32.toUInt16.toUInt32.toInt32)), (.int (0 : Int32)), (.ref a211)]))) (fun t_ kont => XS.iload X206.here hx rfl (hb hby d10_95) rfl kont) ?_
        obtain ⟨c220, A221, q222, S223, M224, H225, U226⟩ := id V219
        obtain ⟨T227, h228, X229, e230, W231, st232⟩ := stC X206 hx hZ e207 A221 (j := (0 : Int32)) (inb_of S223 ⟨(by decide : ¬ ((0 : Int32) < (0 : Int32))), (by decide : (0 : Int32) < (3 : Int32))⟩) (g := (mkF m 97 #[iv v0, iv v1, iv v2, iv v3, iv (v0 &&& (3 : Int32)), iv ((v1 &&& (65535 : Int32)).toUInt32.toUInt16.toUInt32.toInt32), iv ((v2 &&& (65535 : Int32)).toUInt32.toUInt16.toUInt32.toInt32), iv ((v3 &&& (65535 : Int32)).toUInt32.toUInt16.toUInt32.toInt32), rv a211] [(.int ((v1 &&& (65535 : Int32)).toUInt32.toUInt16.toUInt32.toInt32)), (.int (0 : Int32)), (.ref a211)])) rfl rfl (hb hby d10_97)
        have N233 := Fr.snoc X229 N0 ag214
        have Z234 := Nat.le_trans Z215 (Keep.of_wr W231).1
        have hk235 := Nat.le_trans hk216 (Keep.of_wr W231).1
        have O236 := O217.wr W231 ag214
        have V237 : Arv Z h228 a211 k205 .char (3 : Int32) [(.int (nar .char ((v1 &&& (65535 : Int32)).toUInt32.toUInt16.toUInt32.toInt32))), (.int (0 : Int32)), (.int (0 : Int32))] (.int (0 : Int32)) := (Arv.set A221 q222 S223 M224 H225 U226 (fits_nar_char _) W231 0 rfl (Nat.le_of_ble_eq_true rfl))
        refine own_bk (S' := (T227.setTop (mkF m 98 #[iv v0, iv v1, iv v2, iv v3, iv (v0 &&& (3 : Int32)), iv ((v1 &&& (65535 : Int32)).toUInt32.toUInt16.toUInt32.toInt32), iv ((v2 &&& (65535 : Int32)).toUInt32.toUInt16.toUInt32.toInt32), iv ((v3 &&& (65535 : Int32)).toUInt32.toUInt16.toUInt32.toInt32), rv a211] []))) st232 ?_
        refine own_bk (S' := (T227.setTop (mkF m 100 #[iv v0, iv v1, iv v2, iv v3, iv (v0 &&& (3 : Int32)), iv ((v1 &&& (65535 : Int32)).toUInt32.toUInt16.toUInt32.toInt32), iv ((v2 &&& (65535 : Int32)).toUInt32.toUInt16.toUInt32.toInt32), iv ((v3 &&& (65535 : Int32)).toUInt32.toUInt16.toUInt32.toInt32), rv a211] [(.ref a211)]))) (fun t_ kont => XS.aload X229.here hx rfl (hb hby d10_98) rfl rfl kont) ?_
        refine own_bk (S' := (T227.setTop (mkF m 101 #[iv v0, iv v1, iv v2, iv v3, iv (v0 &&& (3 : Int32)), iv ((v1 &&& (65535 : Int32)).toUInt32.toUInt16.toUInt32.toInt32), iv ((v2 &&& (65535 : Int32)).toUInt32.toUInt16.toUInt32.toInt32), iv ((v3 &&& (65535 : Int32)).toUInt32.toUInt16.toUInt32.toInt32), rv a211] [(.int (1 : Int32)), (.ref a211)]))) (fun t_ kont => XS.iconst X229.here hx rfl (hb hby d10_100) kont) ?_
        refine own_bk (S' := (T227.setTop (mkF m 103 #[iv v0, iv v1, iv v2, iv v3, iv (v0 &&& (3 : Int32)), iv ((v1 &&& (65535 : Int32)).toUInt32.toUInt16.toUInt32.toInt32), iv ((v2 &&& (65535 : Int32)).toUInt32.toUInt16.toUInt32.toInt32), iv ((v3 &&& (65535 : Int32)).toUInt32.toUInt16.toUInt32.toInt32), rv a211] [(.int ((v2 &&& (65535 : Int32)).toUInt32.toUInt16.toUInt32.toInt32)), (.int (1 : Int32)), (.ref a211)]))) (fun t_ kont => XS.iload X229.here hx rfl (hb hby d10_101) rfl kont) ?_
        obtain ⟨c238, A239, q240, S241, M242, H243, U244⟩ := id V237
        obtain ⟨T245, h246, X247, e248, W249, st250⟩ := stC X229 hx hZ e230 A239 (j := (1 : Int32)) (inb_of S241 ⟨(by decide : ¬ ((1 : Int32) < (0 : Int32))), (by decide : (1 : Int32) < (3 : Int32))⟩) (g := (mkF m 103 #[iv v0, iv v1, iv v2, iv v3, iv (v0 &&& (3 : Int32)), iv ((v1 &&& (65535 : Int32)).toUInt32.toUInt16.toUInt32.toInt32), iv ((v2 &&& (65535 : Int32)).toUInt32.toUInt16.toUInt32.toInt32), iv ((v3 &&& (65535 : Int32)).toUInt32.toUInt16.toUInt32.toInt32), rv a211] [(.int ((v2 &&& (65535 : Int32)).toUInt32.toUInt16.toUInt32.toInt32)), (.int (1 : Int32)), (.ref a211)])) rfl rfl (hb hby d10_103)
        have N251 := Fr.snoc X247 N233 ag214
        have Z252 := Nat.le_trans Z234 (Keep.of_wr W249).1
        have hk253 := Nat.le_trans hk235 (Keep.of_wr W249).1
        have O254 := O236.wr W249 ag214
        have V255 : Arv Z h246 a211 k205 .char (3 : Int32) [(.int (nar .char ((v1 &&& (65535 : Int32)).toUInt32.toUInt16.toUInt32.toInt32))), (.int (nar .char ((v2 &&& (65535 : Int32)).toUInt32.toUInt16.toUInt32.toInt32))), (.int (0 : Int32))] (.int (0 : Int32)) := (Arv.set A239 q240 S241 M242 H243 U244 (fits_nar_char _) W249 1 rfl (Nat.le_of_ble_eq_true rfl))
        refine own_bk (S' := (T245.setTop (mkF m 104 #[iv v0, iv v1, iv v2, iv v3, iv (v0 &&& (3 : Int32)), iv ((v1 &&& (65535 : Int32)).toUInt32.toUInt16.toUInt32.toInt32), iv ((v2 &&& (65535 : Int32)).toUInt32.toUInt16.toUInt32.toInt32), iv ((v3 &&& (65535 : Int32)).toUInt32.toUInt16.toUInt32.toInt32), rv a211] []))) st250 ?_
        refine own_bk (S' := (T245.setTop (mkF m 106 #[iv v0, iv v1, iv v2, iv v3, iv (v0 &&& (3 : Int32)), iv ((v1 &&& (65535 : Int32)).toUInt32.toUInt16.toUInt32.toInt32), iv ((v2 &&& (65535 : Int32)).toUInt32.toUInt16.toUInt32.toInt32), iv ((v3 &&& (65535 : Int32)).toUInt32.toUInt16.toUInt32.toInt32), rv a211] [(.ref a211)]))) (fun t_ kont => XS.aload X247.here hx rfl (hb hby d10_104) rfl rfl kont) ?_
        refine own_bk (S' := (T245.setTop (mkF m 107 #[iv v0, iv v1, iv v2, iv v3, iv (v0 &&& (3 : Int32)), iv ((v1 &&& (65535 : Int32)).toUInt32.toUInt16.toUInt32.toInt32), iv ((v2 &&& (65535 : Int32)).toUInt32.toUInt16.toUInt32.toInt32), iv ((v3 &&& (65535 : Int32)).toUInt32.toUInt16.toUInt32.toInt32), rv a211] [(.int (2 : Int32)), (.ref a211)]))) (fun t_ kont => XS.iconst X247.here hx rfl (hb hby d10_106) kont) ?_
        refine own_bk (S' := (T245.setTop (mkF m 109 #[iv v0, iv v1, iv v2, iv v3, iv (v0 &&& (3 : Int32)), iv ((v1 &&& (65535 : Int32)).toUInt32.toUInt16.toUInt32.toInt32), iv ((v2 &&& (65535 : Int32)).toUInt32.toUInt16.toUInt32.toInt32), iv ((v3 &&& (65535 : Int32)).toUInt32.toUInt16.toUInt32.toInt32), rv a211] [(.int ((v3 &&& (65535 : Int32)).toUInt32.toUInt16.toUInt32.toInt32)), (.int (2 : Int32)), (.ref a211)]))) (fun t_ kont => XS.iload X247.here hx rfl (hb hby d10_107) rfl kont) ?_
        obtain ⟨c256, A257, q258, S259, M260, H261, U262⟩ := id V255
        obtain ⟨T263, h264, X265, e266, W267, st268⟩ := stC X247 hx hZ e248 A257 (j := (2 : Int32)) (inb_of S259 ⟨(by decide : ¬ ((2 : Int32) < (0 : Int32))), (by decide : (2 : Int32) < (3 : Int32))⟩) (g := (mkF m 109 #[iv v0, iv v1, iv v2, iv v3, iv (v0 &&& (3 : Int32)), iv ((v1 &&& (65535 : Int32)).toUInt32.toUInt16.toUInt32.toInt32), iv ((v2 &&& (65535 : Int32)).toUInt32.toUInt16.toUInt32.toInt32), iv ((v3 &&& (65535 : Int32)).toUInt32.toUInt16.toUInt32.toInt32), rv a211] [(.int ((v3 &&& (65535 : Int32)).toUInt32.toUInt16.toUInt32.toInt32)), (.int (2 : Int32)), (.ref a211)])) rfl rfl (hb hby d10_109)
        have N269 := Fr.snoc X265 N251 ag214
        have Z270 := Nat.le_trans Z252 (Keep.of_wr W267).1
        have hk271 := Nat.le_trans hk253 (Keep.of_wr W267).1
        have O272 := O254.wr W267 ag214
        have V273 : Arv Z h264 a211 k205 .char (3 : Int32) [(.int (nar .char ((v1 &&& (65535 : Int32)).toUInt32.toUInt16.toUInt32.toInt32))), (.int (nar .char ((v2 &&& (65535 : Int32)).toUInt32.toUInt16.toUInt32.toInt32))), (.int (nar .char ((v3 &&& (65535 : Int32)).toUInt32.toUInt16.toUInt32.toInt32)))] (.int (0 : Int32)) := (Arv.set A257 q258 S259 M260 H261 U262 (fits_nar_char _) W267 2 rfl (Nat.le_of_ble_eq_true rfl))
        refine own_bk (S' := (T263.setTop (mkF m 110 #[iv v0, iv v1, iv v2, iv v3, iv (v0 &&& (3 : Int32)), iv ((v1 &&& (65535 : Int32)).toUInt32.toUInt16.toUInt32.toInt32), iv ((v2 &&& (65535 : Int32)).toUInt32.toUInt16.toUInt32.toInt32), iv ((v3 &&& (65535 : Int32)).toUInt32.toUInt16.toUInt32.toInt32), rv a211] []))) st268 ?_
        obtain ⟨T274, h275, X276, e277, E278, A279, D280, -, st281⟩ := newO X265 hx hZ hown (hw _ (List.mem_of_getElem? (i := 94) rfl)) (hw _ (List.mem_of_getElem? (i := 95) rfl)) (hw _ (List.mem_of_getElem? (i := 96) rfl)) e266 (g := (mkF m 110 #[iv v0, iv v1, iv v2, iv v3, iv (v0 &&& (3 : Int32)), iv ((v1 &&& (65535 : Int32)).toUInt32.toUInt16.toUInt32.toInt32), iv ((v2 &&& (65535 : Int32)).toUInt32.toUInt16.toUInt32.toInt32), iv ((v3 &&& (65535 : Int32)).toUInt32.toUInt16.toUInt32.toInt32), rv a211] [])) rfl (hb hby d10_110) (by decide) (by decide)
        obtain ⟨a282, g283⟩ : ∃ z, z = h264.size := ⟨_, rfl⟩
        rw [← g283] at A279 D280 st281
        have ne284 : a211 ≠ a282 := Nat.ne_of_lt (Nat.lt_of_lt_of_le V273.lt (Nat.le_of_eq g283.symm))
        have ag285 : n0 ≤ a282 := Nat.le_trans Z270 (Nat.le_of_eq g283.symm)
        have V286 := (V273.ext E278)
        have Z287 := Nat.le_trans Z270 E278.1
        have hk288 := Nat.le_trans hk271 E278.1
        have O289 := O272.ext E278
        have F290 : Fld Z h275 a282 "java/lang/String" "value" "[B" .null := (D280 (Or.inr (hw _ (List.mem_of_getElem? (i := 108) rfl))) (ty := (.array .byte)) (by decide +kernel))
        have F291 : Fld Z h275 a282 "java/lang/String" "coder" "B" (.int (0 : Int32)) := (D280 (Or.inr (hw _ (List.mem_of_getElem? (i := 109) rfl))) (ty := .byte) (by decide +kernel))
        refine own_bk (S' := (T274.setTop (mkF m 113 #[iv v0, iv v1, iv v2, iv v3, iv (v0 &&& (3 : Int32)), iv ((v1 &&& (65535 : Int32)).toUInt32.toUInt16.toUInt32.toInt32), iv ((v2 &&& (65535 : Int32)).toUInt32.toUInt16.toUInt32.toInt32), iv ((v3 &&& (65535 : Int32)).toUInt32.toUInt16.toUInt32.toInt32), rv a211] [(.ref a282)]))) st281 ?_
        refine own_bk (S' := (T274.setTop (mkF m 114 #[iv v0, iv v1, iv v2, iv v3, iv (v0 &&& (3 : Int32)), iv ((v1 &&& (65535 : Int32)).toUInt32.toUInt16.toUInt32.toInt32), iv ((v2 &&& (65535 : Int32)).toUInt32.toUInt16.toUInt32.toInt32), iv ((v3 &&& (65535 : Int32)).toUInt32.toUInt16.toUInt32.toInt32), rv a211] [(.ref a282), (.ref a282)]))) (fun t_ kont => XS.dup X276.here hx rfl (hb hby d10_113) rfl rfl kont) ?_
        refine own_bk (S' := (T274.setTop (mkF m 116 #[iv v0, iv v1, iv v2, iv v3, iv (v0 &&& (3 : Int32)), iv ((v1 &&& (65535 : Int32)).toUInt32.toUInt16.toUInt32.toInt32), iv ((v2 &&& (65535 : Int32)).toUInt32.toUInt16.toUInt32.toInt32), iv ((v3 &&& (65535 : Int32)).toUInt32.toUInt16.toUInt32.toInt32), rv a211] [(.ref a211), (.ref a282), (.ref a282)]))) (fun t_ kont => XS.aload X276.here hx rfl (hb hby d10_114) rfl rfl kont) ?_
        have rq292 := own_i2c (v1 &&& (65535 : Int32))
        have rq293 := own_i2c (v2 &&& (65535 : Int32))
        have rq294 := own_i2c (v3 &&& (65535 : Int32))
        by_cases hc295 : (255 : Int32) < (nar .char ((v1 &&& (65535 : Int32)).toUInt32.toUInt16.toUInt32.toInt32))
        · obtain ⟨_, _, ⟨T296, L297, k298, n299⟩, -, X300, ⟨Lc301, hQ302, l303, y304, z305⟩, st306⟩ := X276.specialBack hx (y := (⟨"java/lang/String", "<init>", "([C)V"⟩ : MethodName)) rfl hown (mvT hZ (hw _ (List.mem_of_getElem? (i := 98) rfl))) (mvT hZ (hw _ (List.mem_of_getElem? (i := 99) rfl))) (mvT hZ (hw _ (List.mem_of_getElem? (i := 100) rfl))) (by decide) (backOf (W := 1) (rmI130 l Z a0 hw [] a282 a211 k205 (nar .char ((v1 &&& (65535 : Int32)).toUInt32.toUInt16.toUInt32.toInt32)) (nar .char ((v2 &&& (65535 : Int32)).toUInt32.toUInt16.toUInt32.toInt32)) (nar .char ((v3 &&& (65535 : Int32)).toUInt32.toUInt16.toUInt32.toInt32)) cz h275 n0 Z287 O289 SU V286 A279 ag285 F290 F291 rq292.1 rq292.2 rq293.1 rq293.2 rq294.1 rq294.2 hc295) hZ (hw _ (List.mem_of_getElem? (i := 100) rfl)) (hw _ (List.mem_of_getElem? (i := 96) rfl)) (by decide) (by decide)) (g := (mkF m 116 #[iv v0, iv v1, iv v2, iv v3, iv (v0 &&& (3 : Int32)), iv ((v1 &&& (65535 : Int32)).toUInt32.toUInt16.toUInt32.toInt32), iv ((v2 &&& (65535 : Int32)).toUInt32.toUInt16.toUInt32.toInt32), iv ((v3 &&& (65535 : Int32)).toUInt32.toUInt16.toUInt32.toInt32), rv a211] [(.ref a211), (.ref a282), (.ref a282)])) rfl (by rw [hml]; rfl) (Steps.refl _) (a := a282) (argsL := [(.ref a211)]) (rest := [(.ref a282)]) (lenOf (by decide +kernel : parseMethodDescriptor "([C)V" = some ⟨[(.array .char)], none⟩) rfl) rfl (by show 2 * 0 + _ ≤ _; exact Nat.le_of_eq rfl) (hb hby d10_116) (fun _ _ => ⟨rfl, e277, (by decide : 2 + 2 ≤ _), (by decide : 7 + 9 ≤ _)⟩)
          dsimp only [Pt.U, Pt.locs, Pt.cells, Pt.slots] at X300 l303 y304 z305 st306 hQ302
          subst l303 y304 z305
          obtain ⟨rfl, N307, O_, Z_, E_⟩ := hQ302
          have N309 := Fr.app N269 N307
          refine own_tr (S' := (T296.setTop (mkF m 119 #[iv v0, iv v1, iv v2, iv v3, iv (v0 &&& (3 : Int32)), iv ((v1 &&& (65535 : Int32)).toUInt32.toUInt16.toUInt32.toInt32), iv ((v2 &&& (65535 : Int32)).toUInt32.toUInt16.toUInt32.toInt32), iv ((v3 &&& (65535 : Int32)).toUInt32.toUInt16.toUInt32.toInt32), rv a211] [(.ref a282)]))) st306 ?_
          exact own_retAW hS X300 (by rw [show T296.heap = T296.heap from rfl]; exact (Nat.zero_le _)) hx hlk Bd.returns rfl rfl rfl (hb hby d10_119) ⟨N309, O_, Z_, _, rfl, E_⟩ (by decide) (by decide)
        · by_cases hc310 : (255 : Int32) < (nar .char ((v2 &&& (65535 : Int32)).toUInt32.toUInt16.toUInt32.toInt32))
          · obtain ⟨_, _, ⟨T311, L312, k313, n314⟩, -, X315, ⟨Lc316, hQ317, l318, y319, z320⟩, st321⟩ := X276.specialBack hx (y := (⟨"java/lang/String", "<init>", "([C)V"⟩ : MethodName)) rfl hown (mvT hZ (hw _ (List.mem_of_getElem? (i := 98) rfl))) (mvT hZ (hw _ (List.mem_of_getElem? (i := 99) rfl))) (mvT hZ (hw _ (List.mem_of_getElem? (i := 100) rfl))) (by decide) (backOf (W := 1) (rmI131 l Z a0 hw [] a282 a211 k205 (nar .char ((v1 &&& (65535 : Int32)).toUInt32.toUInt16.toUInt32.toInt32)) (nar .char ((v2 &&& (65535 : Int32)).toUInt32.toUInt16.toUInt32.toInt32)) (nar .char ((v3 &&& (65535 : Int32)).toUInt32.toUInt16.toUInt32.toInt32)) cz h275 n0 Z287 O289 SU V286 A279 ag285 F290 F291 rq292.1 rq292.2 rq293.1 rq293.2 rq294.1 rq294.2 hc295 hc310) hZ (hw _ (List.mem_of_getElem? (i := 100) rfl)) (hw _ (List.mem_of_getElem? (i := 96) rfl)) (by decide) (by decide)) (g := (mkF m 116 #[iv v0, iv v1, iv v2, iv v3, iv (v0 &&& (3 : Int32)), iv ((v1 &&& (65535 : Int32)).toUInt32.toUInt16.toUInt32.toInt32), iv ((v2 &&& (65535 : Int32)).toUInt32.toUInt16.toUInt32.toInt32), iv ((v3 &&& (65535 : Int32)).toUInt32.toUInt16.toUInt32.toInt32), rv a211] [(.ref a211), (.ref a282), (.ref a282)])) rfl (by rw [hml]; rfl) (Steps.refl _) (a := a282) (argsL := [(.ref a211)]) (rest := [(.ref a282)]) (lenOf (by decide +kernel : parseMethodDescriptor "([C)V" = some ⟨[(.array .char)], none⟩) rfl) rfl (by show 2 * 0 + _ ≤ _; exact Nat.le_of_eq rfl) (hb hby d10_116) (fun _ _ => ⟨rfl, e277, (by decide : 2 + 2 ≤ _), (by decide : 7 + 9 ≤ _)⟩)
            dsimp only [Pt.U, Pt.locs, Pt.cells, Pt.slots] at X315 l318 y319 z320 st321 hQ317
            subst l318 y319 z320
            obtain ⟨rfl, N322, O_, Z_, E_⟩ := hQ317
            have N324 := Fr.app N269 N322
            refine own_tr (S' := (T311.setTop (mkF m 119 #[iv v0, iv v1, iv v2, iv v3, iv (v0 &&& (3 : Int32)), iv ((v1 &&& (65535 : Int32)).toUInt32.toUInt16.toUInt32.toInt32), iv ((v2 &&& (65535 : Int32)).toUInt32.toUInt16.toUInt32.toInt32), iv ((v3 &&& (65535 : Int32)).toUInt32.toUInt16.toUInt32.toInt32), rv a211] [(.ref a282)]))) st321 ?_
            exact own_retAW hS X315 (by rw [show T311.heap = T311.heap from rfl]; exact (Nat.zero_le _)) hx hlk Bd.returns rfl rfl rfl (hb hby d10_119) ⟨N324, O_, Z_, _, rfl, E_⟩ (by decide) (by decide)
          · by_cases hc325 : (255 : Int32) < (nar .char ((v3 &&& (65535 : Int32)).toUInt32.toUInt16.toUInt32.toInt32))
            · obtain ⟨_, _, ⟨T326, L327, k328, n329⟩, -, X330, ⟨Lc331, hQ332, l333, y334, z335⟩, st336⟩ := X276.specialBack hx (y := (⟨"java/lang/String", "<init>", "([C)V"⟩ : MethodName)) rfl hown (mvT hZ (hw _ (List.mem_of_getElem? (i := 98) rfl))) (mvT hZ (hw _ (List.mem_of_getElem? (i := 99) rfl))) (mvT hZ (hw _ (List.mem_of_getElem? (i := 100) rfl))) (by decide) (backOf (W := 1) (rmI132 l Z a0 hw [] a282 a211 k205 (nar .char ((v1 &&& (65535 : Int32)).toUInt32.toUInt16.toUInt32.toInt32)) (nar .char ((v2 &&& (65535 : Int32)).toUInt32.toUInt16.toUInt32.toInt32)) (nar .char ((v3 &&& (65535 : Int32)).toUInt32.toUInt16.toUInt32.toInt32)) cz h275 n0 Z287 O289 SU V286 A279 ag285 F290 F291 rq292.1 rq292.2 rq293.1 rq293.2 rq294.1 rq294.2 hc295 hc310 hc325) hZ (hw _ (List.mem_of_getElem? (i := 100) rfl)) (hw _ (List.mem_of_getElem? (i := 96) rfl)) (by decide) (by decide)) (g := (mkF m 116 #[iv v0, iv v1, iv v2, iv v3, iv (v0 &&& (3 : Int32)), iv ((v1 &&& (65535 : Int32)).toUInt32.toUInt16.toUInt32.toInt32), iv ((v2 &&& (65535 : Int32)).toUInt32.toUInt16.toUInt32.toInt32), iv ((v3 &&& (65535 : Int32)).toUInt32.toUInt16.toUInt32.toInt32), rv a211] [(.ref a211), (.ref a282), (.ref a282)])) rfl (by rw [hml]; rfl) (Steps.refl _) (a := a282) (argsL := [(.ref a211)]) (rest := [(.ref a282)]) (lenOf (by decide +kernel : parseMethodDescriptor "([C)V" = some ⟨[(.array .char)], none⟩) rfl) rfl (by show 2 * 0 + _ ≤ _; exact Nat.le_of_eq rfl) (hb hby d10_116) (fun _ _ => ⟨rfl, e277, (by decide : 2 + 2 ≤ _), (by decide : 7 + 9 ≤ _)⟩)
              dsimp only [Pt.U, Pt.locs, Pt.cells, Pt.slots] at X330 l333 y334 z335 st336 hQ332
              subst l333 y334 z335
              obtain ⟨rfl, N337, O_, Z_, E_⟩ := hQ332
              have N339 := Fr.app N269 N337
              refine own_tr (S' := (T326.setTop (mkF m 119 #[iv v0, iv v1, iv v2, iv v3, iv (v0 &&& (3 : Int32)), iv ((v1 &&& (65535 : Int32)).toUInt32.toUInt16.toUInt32.toInt32), iv ((v2 &&& (65535 : Int32)).toUInt32.toUInt16.toUInt32.toInt32), iv ((v3 &&& (65535 : Int32)).toUInt32.toUInt16.toUInt32.toInt32), rv a211] [(.ref a282)]))) st336 ?_
              exact own_retAW hS X330 (by rw [show T326.heap = T326.heap from rfl]; exact (Nat.zero_le _)) hx hlk Bd.returns rfl rfl rfl (hb hby d10_119) ⟨N339, O_, Z_, _, rfl, E_⟩ (by decide) (by decide)
            · obtain ⟨_, _, ⟨T340, L341, k342, n343⟩, -, X344, ⟨Lc345, hQ346, l347, y348, z349⟩, st350⟩ := X276.specialBack hx (y := (⟨"java/lang/String", "<init>", "([C)V"⟩ : MethodName)) rfl hown (mvT hZ (hw _ (List.mem_of_getElem? (i := 98) rfl))) (mvT hZ (hw _ (List.mem_of_getElem? (i := 99) rfl))) (mvT hZ (hw _ (List.mem_of_getElem? (i := 100) rfl))) (by decide) (backOf (W := 1) (rmI133 l Z a0 hw [] a282 a211 k205 (nar .char ((v1 &&& (65535 : Int32)).toUInt32.toUInt16.toUInt32.toInt32)) (nar .char ((v2 &&& (65535 : Int32)).toUInt32.toUInt16.toUInt32.toInt32)) (nar .char ((v3 &&& (65535 : Int32)).toUInt32.toUInt16.toUInt32.toInt32)) cz h275 n0 Z287 O289 SU V286 A279 ag285 F290 F291 rq292.1 rq292.2 rq293.1 rq293.2 rq294.1 rq294.2 hc295 hc310 hc325) hZ (hw _ (List.mem_of_getElem? (i := 100) rfl)) (hw _ (List.mem_of_getElem? (i := 96) rfl)) (by decide) (by decide)) (g := (mkF m 116 #[iv v0, iv v1, iv v2, iv v3, iv (v0 &&& (3 : Int32)), iv ((v1 &&& (65535 : Int32)).toUInt32.toUInt16.toUInt32.toInt32), iv ((v2 &&& (65535 : Int32)).toUInt32.toUInt16.toUInt32.toInt32), iv ((v3 &&& (65535 : Int32)).toUInt32.toUInt16.toUInt32.toInt32), rv a211] [(.ref a211), (.ref a282), (.ref a282)])) rfl (by rw [hml]; rfl) (Steps.refl _) (a := a282) (argsL := [(.ref a211)]) (rest := [(.ref a282)]) (lenOf (by decide +kernel : parseMethodDescriptor "([C)V" = some ⟨[(.array .char)], none⟩) rfl) rfl (by show 2 * 0 + _ ≤ _; exact Nat.le_of_eq rfl) (hb hby d10_116) (fun _ _ => ⟨rfl, e277, (by decide : 2 + 2 ≤ _), (by decide : 7 + 9 ≤ _)⟩)
              dsimp only [Pt.U, Pt.locs, Pt.cells, Pt.slots] at X344 l347 y348 z349 st350 hQ346
              subst l347 y348 z349
              obtain ⟨rfl, N351, O_, Z_, E_⟩ := hQ346
              have N353 := Fr.app N269 N351
              refine own_tr (S' := (T340.setTop (mkF m 119 #[iv v0, iv v1, iv v2, iv v3, iv (v0 &&& (3 : Int32)), iv ((v1 &&& (65535 : Int32)).toUInt32.toUInt16.toUInt32.toInt32), iv ((v2 &&& (65535 : Int32)).toUInt32.toUInt16.toUInt32.toInt32), iv ((v3 &&& (65535 : Int32)).toUInt32.toUInt16.toUInt32.toInt32), rv a211] [(.ref a282)]))) st350 ?_
              exact own_retAW hS X344 (by rw [show T340.heap = T340.heap from rfl]; exact (Nat.zero_le _)) hx hlk Bd.returns rfl rfl rfl (hb hby d10_119) ⟨N353, O_, Z_, _, rfl, E_⟩ (by decide) (by decide)
theorem d4_0 : decode jdk_78_method_2_code 0 = .ok (.aload_n 0, 1) := by decide +kernel
theorem d4_1 : decode jdk_78_method_2_code 1 = .ok (.invokespecial 1, 3) := by decide +kernel
theorem d4_4 : decode jdk_78_method_2_code 4 = .ok (.aload_n 0, 1) := by decide +kernel
theorem d4_5 : decode jdk_78_method_2_code 5 = .ok (.aload_n 0, 1) := by decide +kernel
theorem d4_6 : decode jdk_78_method_2_code 6 = .ok (.putfield 7, 3) := by decide +kernel
theorem d4_9 : decode jdk_78_method_2_code 9 = .ok (.aload_n 0, 1) := by decide +kernel
theorem d4_10 : decode jdk_78_method_2_code 10 = .ok (.getstatic 13, 3) := by decide +kernel
theorem d4_13 : decode jdk_78_method_2_code 13 = .ok (.putfield 17, 3) := by decide +kernel
theorem d4_16 : decode jdk_78_method_2_code 16 = .ok (.aload_n 0, 1) := by decide +kernel
theorem d4_17 : decode jdk_78_method_2_code 17 = .ok (.getstatic 20, 3) := by decide +kernel
theorem d4_20 : decode jdk_78_method_2_code 20 = .ok (.putfield 24, 3) := by decide +kernel
theorem d4_23 : decode jdk_78_method_2_code 23 = .ok (.aload_n 0, 1) := by decide +kernel
theorem d4_24 : decode jdk_78_method_2_code 24 = .ok (.invokevirtual 27, 3) := by decide +kernel
theorem d4_27 : decode jdk_78_method_2_code 27 = .ok (.pop, 1) := by decide +kernel
theorem d4_28 : decode jdk_78_method_2_code 28 = .ok (.aload_n 0, 1) := by decide +kernel
theorem d4_29 : decode jdk_78_method_2_code 29 = .ok (.aload_n 1, 1) := by decide +kernel
theorem d4_30 : decode jdk_78_method_2_code 30 = .ok (.putfield 31, 3) := by decide +kernel
theorem d4_33 : decode jdk_78_method_2_code 33 = .ok (.return_, 1) := by decide +kernel
theorem ef_rmThrN (m : MethodId) (x0 : Addr) : entryFrame m #[(.ref x0), .null] 2 = mkF m 0 #[.val (.ref x0), .val .null] [] := by first | (simp [entryFrame, mkF, argsToLocals, Value.category, maxLocals]; done) | rfl
def Q_rmThrN (Z : State) (a rS rL : Addr) (h0 : Heap) (n0 : Nat) (v : Option Value) (h : Heap) (L : List Loc) : Prop := v = none ∧ Fr n0 L ∧ Keep h0 h [a] ∧ Exa Z h a "com/example/portunus/portunus/CommandFailure" ∧ Unt h a ∧ Fld Z h a "com/example/portunus/portunus/CommandFailure" "exitCode" "Lcom/example/portunus/portunus/ExitCode;" .null ∧ Fld Z h a "java/lang/Throwable" "detailMessage" "Ljava/lang/String;" .null ∧ Fld Z h a "java/lang/Throwable" "cause" "Ljava/lang/Throwable;" (.ref a)
set_option maxRecDepth 65536 in
set_option maxHeartbeats 40000000 in
theorem rmThrN (l : Launch) (Z : State) (a0 : Array Value) (hw : ∀ d ∈ tables_1, d.before a0 Z = true) (ws : List Jvm.Cond) (a rS rL : Addr) (h0 : Heap) (n0 : Nat) (Z0 : n0 ≤ h0.size) (hl : l.stackTraces = true) (O : Old Z n0 h0) (SX : Sta Z Z.heap "java/lang/Throwable" "UNASSIGNED_STACK" "[Ljava/lang/StackTraceElement;" (.ref rS)) (SY : Sta Z Z.heap "java/lang/Throwable" "SUPPRESSED_SENTINEL" "Ljava/util/List;" (.ref rL)) (E : Exa Z h0 a "com/example/portunus/portunus/CommandFailure") (U : Unt h0 a) (ag : n0 ≤ a) (F0 : Fld Z h0 a "java/lang/Throwable" "cause" "Ljava/lang/Throwable;" .null) (F1 : Fld Z h0 a "java/lang/Throwable" "stackTrace" "[Ljava/lang/StackTraceElement;" .null) (F2 : Fld Z h0 a "java/lang/Throwable" "suppressedExceptions" "Ljava/util/List;" .null) (F3 : Fld Z h0 a "java/lang/Throwable" "backtrace" "Ljava/lang/Object;" .null) (F4 : Fld Z h0 a "java/lang/Throwable" "detailMessage" "Ljava/lang/String;" .null) (F5 : Fld Z h0 a "com/example/portunus/portunus/CommandFailure" "exitCode" "Lcom/example/portunus/portunus/ExitCode;" .null) :
    MetFree l (⟨"java/lang/Throwable", "<init>", "(Ljava/lang/String;)V"⟩ : MethodName) (head1 (Jvm.Cond.code (⟨"java/lang/Throwable", "<init>", "(Ljava/lang/String;)V"⟩ : MethodName) jdk_78_method_2_code 2 none :: ws) ({ frames := 3, cells := 1, slots := 2752, locals := 44 } : Room)) (fun as_ U_ => as_ = #[(.ref a), .null] ∧ Z.Warmed39 U_.vm ∧ U_.heap = h0) (fun _ _ bl s _ => s.vm.MethodsKnown ∧ s.vm.FramesKnown bl) (fun _ U_ o_ U2_ => ∃ v_ L_, o_ = .returned v_ ∧ (Q_rmThrN Z a rS rL h0 n0) v_ U2_.heap L_ ∧ FrameEnd U_ o_ U2_ L_ ({ frames := 3, cells := 1, slots := 2752, locals := 44 } : Room).cells ({ frames := 3, cells := 1, slots := 2752, locals := 44 } : Room).slots) := by
  refine MetFree.of_bodySF (plainFor_of_name (by first | (simp [plainName, overriddenIn]; done) | decide +kernel : plainName "java/lang/Throwable" = true)) hisR ?_
  intro p e s m args below meth c s₁ Bd hml0 hP hK
  obtain ⟨rfl, hZ, hh⟩ := hP
  have hx := Bd.exec
  have hby := Bd.bytes
  have hlk := Bd.notSynchronized
  have hml : c.maxLocals = 2 := hml0
  have hown : s.vm.findClass "java/lang/Throwable" = some m.cls := findClass_of_methodNamed Bd.named
  have hnm := (name_of_methodNamed Bd.named Bd.method).1
  have X0 : Stand p l e ({ frames := 3, cells := 1, slots := 2752, locals := 44 } : Room) s m #[(.ref a), .null] below meth c s₁ [] 0 0 := Stand.of_body Bd
  have e0 : s₁.heap = h0 := by rw [← hh, Bd.state]; rfl
  have N0 := Fr.nil n0
  show own_Go p e below (own_R s below (Q_rmThrN Z a rS rL h0 n0) ({ frames := 3, cells := 1, slots := 2752, locals := 44 } : Room).cells ({ frames := 3, cells := 1, slots := 2752, locals := 44 } : Room).slots) (s₁.setTop (entryFrame m #[(.ref a), .null] 2))
  refine own_bk (S' := (s₁.setTop (mkF m 0 #[rv a, .val .null] []))) (fun t_ kont => castTop (ef_rmThrN m (a)) kont) ?_
  have W_ : own_W #[.ref a, .null] s := fun d hd ok => mvX (by rw [hh]; exact ThS.ext O.2 ThS.start) hZ ok (hw d hd)
  refine own_bk (S' := (s₁.setTop (mkF m 1 #[rv a, .val .null] [(.ref a)]))) (fun t_ kont => XS.aloadN X0.here hx rfl (hb hby d4_0) rfl rfl kont) ?_
  obtain ⟨T1, X2, e3, st4⟩ := initO X0 hx hZ hown (hw _ (List.mem_of_getElem? (i := 23) rfl)) (hw _ (List.mem_of_getElem? (i := 24) rfl)) (hw _ (List.mem_of_getElem? (i := 25) rfl)) e0 (g := (mkF m 1 #[rv a, .val .null] [(.ref a)])) rfl (by rw [hml]; rfl) rfl (hb hby d4_1) (by decide) (W := 0) (by show 2 * 0 + _ ≤ _; exact Nat.le_of_eq rfl) (by decide)
  refine own_bk (S' := (T1.setTop (mkF m 4 #[rv a, .val .null] []))) st4 ?_
  refine own_bk (S' := (T1.setTop (mkF m 5 #[rv a, .val .null] [(.ref a)]))) (fun t_ kont => XS.aloadN X2.here hx rfl (hb hby d4_4) rfl rfl kont) ?_
  refine own_bk (S' := (T1.setTop (mkF m 6 #[rv a, .val .null] [(.ref a), (.ref a)]))) (fun t_ kont => XS.aloadN X2.here hx rfl (hb hby d4_5) rfl rfl kont) ?_
  obtain ⟨T5, h6, X7, e8, W9, st10⟩ := putF X2 hx hZ hown (host := "") (Or.inl (hw _ (List.mem_of_getElem? (i := 26) rfl))) Via.refl e3 F0 E (Or.inl (hw _ (List.mem_of_getElem? (i := 27) rfl))) (hw _ (List.mem_of_getElem? (i := 5) rfl)) (ty := (.object "java/lang/Throwable")) (by decide +kernel) rfl rfl (g := (mkF m 6 #[rv a, .val .null] [(.ref a), (.ref a)])) rfl rfl (hb hby d4_6)
  have N11 := Fr.snoc X7 N0 ag
  have u12 := Unt.wr W9 U
  have E13 := (E.wr W9)
  have F14 := (F0.same W9)
  have F15 := (F1.other W9 (Or.inr (slot_ne (Or.inl (hw _ (List.mem_of_getElem? (i := 30) rfl))) (Or.inl (hw _ (List.mem_of_getElem? (i := 27) rfl))) (by decide) (show parseFieldDescriptor "[Ljava/lang/StackTraceElement;" = some (.array (.object "java/lang/StackTraceElement")) from by decide +kernel) (show parseFieldDescriptor "Ljava/lang/Throwable;" = some (.object "java/lang/Throwable") from by decide +kernel))))
  have F16 := (F2.other W9 (Or.inr (slot_ne (Or.inl (hw _ (List.mem_of_getElem? (i := 33) rfl))) (Or.inl (hw _ (List.mem_of_getElem? (i := 27) rfl))) (by decide) (show parseFieldDescriptor "Ljava/util/List;" = some (.object "java/util/List") from by decide +kernel) (show parseFieldDescriptor "Ljava/lang/Throwable;" = some (.object "java/lang/Throwable") from by decide +kernel))))
  have F17 := (F3.other W9 (Or.inr (slot_ne (Or.inl (hw _ (List.mem_of_getElem? (i := 58) rfl))) (Or.inl (hw _ (List.mem_of_getElem? (i := 27) rfl))) (by decide) (show parseFieldDescriptor "Ljava/lang/Object;" = some (.object "java/lang/Object") from by decide +kernel) (show parseFieldDescriptor "Ljava/lang/Throwable;" = some (.object "java/lang/Throwable") from by decide +kernel))))
  have F18 := (F4.other W9 (Or.inr (slot_ne (Or.inl (hw _ (List.mem_of_getElem? (i := 57) rfl))) (Or.inl (hw _ (List.mem_of_getElem? (i := 27) rfl))) (by decide) (show parseFieldDescriptor "Ljava/lang/String;" = some (.object "java/lang/String") from by decide +kernel) (show parseFieldDescriptor "Ljava/lang/Throwable;" = some (.object "java/lang/Throwable") from by decide +kernel))))
  have F19 := (F5.other W9 (Or.inr (slot_ne (Or.inr (hw _ (List.mem_of_getElem? (i := 63) rfl))) (Or.inl (hw _ (List.mem_of_getElem? (i := 27) rfl))) (by decide) (show parseFieldDescriptor "Lcom/example/portunus/portunus/ExitCode;" = some (.object "com/example/portunus/portunus/ExitCode") from by decide +kernel) (show parseFieldDescriptor "Ljava/lang/Throwable;" = some (.object "java/lang/Throwable") from by decide +kernel))))
  have Z20 := Nat.le_trans Z0 (Keep.of_wr W9).1
  have O21 := O.wr W9 ag
  have K22 := (Keep.refl h0 [a]).wr W9 (Or.inl (List.mem_of_getElem? (i := 0) rfl))
  refine own_bk (S' := (T5.setTop (mkF m 9 #[rv a, .val .null] []))) st10 ?_
  refine own_bk (S' := (T5.setTop (mkF m 10 #[rv a, .val .null] [(.ref a)]))) (fun t_ kont => XS.aloadN X7.here hx rfl (hb hby d4_9) rfl rfl kont) ?_
  obtain ⟨T23, X24, e25, st26⟩ := getS2 X7 hx hZ hown (host := "") (Or.inl (hw _ (List.mem_of_getElem? (i := 28) rfl))) Via.refl e8 (SX.ext O21.2) (g := (mkF m 10 #[rv a, .val .null] [(.ref a)])) rfl (hb hby d4_10)
  refine own_bk (S' := (T23.setTop (mkF m 13 #[rv a, .val .null] [(.ref rS), (.ref a)]))) st26 ?_
  obtain ⟨T27, h28, X29, e30, W31, st32⟩ := putF X24 hx hZ hown (host := "") (Or.inl (hw _ (List.mem_of_getElem? (i := 29) rfl))) Via.refl e25 F15 E13 (Or.inl (hw _ (List.mem_of_getElem? (i := 30) rfl))) (hw _ (List.mem_of_getElem? (i := 5) rfl)) (ty := (.array (.object "java/lang/StackTraceElement"))) (by decide +kernel) rfl rfl (g := (mkF m 13 #[rv a, .val .null] [(.ref rS), (.ref a)])) rfl rfl (hb hby d4_13)
  have N33 := Fr.snoc X29 N11 ag
  have u34 := Unt.wr W31 u12
  have E35 := (E13.wr W31)
  have F36 := (F14.other W31 (Or.inr (slot_ne (Or.inl (hw _ (List.mem_of_getElem? (i := 27) rfl))) (Or.inl (hw _ (List.mem_of_getElem? (i := 30) rfl))) (by decide) (show parseFieldDescriptor "Ljava/lang/Throwable;" = some (.object "java/lang/Throwable") from by decide +kernel) (show parseFieldDescriptor "[Ljava/lang/StackTraceElement;" = some (.array (.object "java/lang/StackTraceElement")) from by decide +kernel))))
  have F37 := (F15.same W31)
  have F38 := (F16.other W31 (Or.inr (slot_ne (Or.inl (hw _ (List.mem_of_getElem? (i := 33) rfl))) (Or.inl (hw _ (List.mem_of_getElem? (i := 30) rfl))) (by decide) (show parseFieldDescriptor "Ljava/util/List;" = some (.object "java/util/List") from by decide +kernel) (show parseFieldDescriptor "[Ljava/lang/StackTraceElement;" = some (.array (.object "java/lang/StackTraceElement")) from by decide +kernel))))
  have F39 := (F17.other W31 (Or.inr (slot_ne (Or.inl (hw _ (List.mem_of_getElem? (i := 58) rfl))) (Or.inl (hw _ (List.mem_of_getElem? (i := 30) rfl))) (by decide) (show parseFieldDescriptor "Ljava/lang/Object;" = some (.object "java/lang/Object") from by decide +kernel) (show parseFieldDescriptor "[Ljava/lang/StackTraceElement;" = some (.array (.object "java/lang/StackTraceElement")) from by decide +kernel))))
  have F40 := (F18.other W31 (Or.inr (slot_ne (Or.inl (hw _ (List.mem_of_getElem? (i := 57) rfl))) (Or.inl (hw _ (List.mem_of_getElem? (i := 30) rfl))) (by decide) (show parseFieldDescriptor "Ljava/lang/String;" = some (.object "java/lang/String") from by decide +kernel) (show parseFieldDescriptor "[Ljava/lang/StackTraceElement;" = some (.array (.object "java/lang/StackTraceElement")) from by decide +kernel))))
  have F41 := (F19.other W31 (Or.inr (slot_ne (Or.inr (hw _ (List.mem_of_getElem? (i := 63) rfl))) (Or.inl (hw _ (List.mem_of_getElem? (i := 30) rfl))) (by decide) (show parseFieldDescriptor "Lcom/example/portunus/portunus/ExitCode;" = some (.object "com/example/portunus/portunus/ExitCode") from by decide +kernel) (show parseFieldDescriptor "[Ljava/lang/StackTraceElement;" = some (.array (.object "java/lang/StackTraceElement")) from by decide +kernel))))
  have Z42 := Nat.le_trans Z20 (Keep.of_wr W31).1
  have O43 := O21.wr W31 ag
  have K44 := K22.wr W31 (Or.inl (List.mem_of_getElem? (i := 0) rfl))
  refine own_bk (S' := (T27.setTop (mkF m 16 #[rv a, .val .null] []))) st32 ?_
  refine own_bk (S' := (T27.setTop (mkF m 17 #[rv a, .val .null] [(.ref a)]))) (fun t_ kont => XS.aloadN X29.here hx rfl (hb hby d4_16) rfl rfl kont) ?_
  obtain ⟨T45, X46, e47, st48⟩ := getS2 X29 hx hZ hown (host := "") (Or.inl (hw _ (List.mem_of_getElem? (i := 31) rfl))) Via.refl e30 (SY.ext O43.2) (g := (mkF m 17 #[rv a, .val .null] [(.ref a)])) rfl (hb hby d4_17)
  refine own_bk (S' := (T45.setTop (mkF m 20 #[rv a, .val .null] [(.ref rL), (.ref a)]))) st48 ?_
  obtain ⟨T49, h50, X51, e52, W53, st54⟩ := putF X46 hx hZ hown (host := "") (Or.inl (hw _ (List.mem_of_getElem? (i := 32) rfl))) Via.refl e47 F38 E35 (Or.inl (hw _ (List.mem_of_getElem? (i := 33) rfl))) (hw _ (List.mem_of_getElem? (i := 5) rfl)) (ty := (.object "java/util/List")) (by decide +kernel) rfl rfl (g := (mkF m 20 #[rv a, .val .null] [(.ref rL), (.ref a)])) rfl rfl (hb hby d4_20)
  have N55 := Fr.snoc X51 N33 ag
  have u56 := Unt.wr W53 u34
  have E57 := (E35.wr W53)
  have F58 := (F36.other W53 (Or.inr (slot_ne (Or.inl (hw _ (List.mem_of_getElem? (i := 27) rfl))) (Or.inl (hw _ (List.mem_of_getElem? (i := 33) rfl))) (by decide) (show parseFieldDescriptor "Ljava/lang/Throwable;" = some (.object "java/lang/Throwable") from by decide +kernel) (show parseFieldDescriptor "Ljava/util/List;" = some (.object "java/util/List") from by decide +kernel))))
  have F59 := (F37.other W53 (Or.inr (slot_ne (Or.inl (hw _ (List.mem_of_getElem? (i := 30) rfl))) (Or.inl (hw _ (List.mem_of_getElem? (i := 33) rfl))) (by decide) (show parseFieldDescriptor "[Ljava/lang/StackTraceElement;" = some (.array (.object "java/lang/StackTraceElement")) from by decide +kernel) (show parseFieldDescriptor "Ljava/util/List;" = some (.object "java/util/List") from by decide +kernel))))
  have F60 := (F38.same W53)
  have F61 := (F39.other W53 (Or.inr (slot_ne (Or.inl (hw _ (List.mem_of_getElem? (i := 58) rfl))) (Or.inl (hw _ (List.mem_of_getElem? (i := 33) rfl))) (by decide) (show parseFieldDescriptor "Ljava/lang/Object;" = some (.object "java/lang/Object") from by decide +kernel) (show parseFieldDescriptor "Ljava/util/List;" = some (.object "java/util/List") from by decide +kernel))))
  have F62 := (F40.other W53 (Or.inr (slot_ne (Or.inl (hw _ (List.mem_of_getElem? (i := 57) rfl))) (Or.inl (hw _ (List.mem_of_getElem? (i := 33) rfl))) (by decide) (show parseFieldDescriptor "Ljava/lang/String;" = some (.object "java/lang/String") from by decide +kernel) (show parseFieldDescriptor "Ljava/util/List;" = some (.object "java/util/List") from by decide +kernel))))
  have F63 := (F41.other W53 (Or.inr (slot_ne (Or.inr (hw _ (List.mem_of_getElem? (i := 63) rfl))) (Or.inl (hw _ (List.mem_of_getElem? (i := 33) rfl))) (by decide) (show parseFieldDescriptor "Lcom/example/portunus/portunus/ExitCode;" = some (.object "com/example/portunus/portunus/ExitCode") from by decide +kernel) (show parseFieldDescriptor "Ljava/util/List;" = some (.object "java/util/List") from by decide +kernel))))
  have Z64 := Nat.le_trans Z42 (Keep.of_wr W53).1
  have O65 := O43.wr W53 ag
  have K66 := K44.wr W53 (Or.inl (List.mem_of_getElem? (i := 0) rfl))
  refine own_bk (S' := (T49.setTop (mkF m 23 #[rv a, .val .null] []))) st54 ?_
  refine own_bk (S' := (T49.setTop (mkF m 24 #[rv a, .val .null] [(.ref a)]))) (fun t_ kont => XS.aloadN X51.here hx rfl (hb hby d4_23) rfl rfl kont) ?_
  obtain ⟨cqq78, kqq78, q78a, q78b, q78c⟩ := isOf hZ e52 E57
  obtain ⟨_, _, ⟨T67, L68, k69, n70⟩, -, X71, ⟨Lc72, hQ73, l74, y75, z76⟩, st77⟩ := X51.virtualBack hx (y := (⟨"java/lang/Throwable", "fillInStackTrace", "()Ljava/lang/Throwable;"⟩ : MethodName)) (z := (⟨"java/lang/Throwable", "fillInStackTrace", "()Ljava/lang/Throwable;"⟩ : MethodName)) hown (mvT hZ (hw _ (List.mem_of_getElem? (i := 34) rfl))) (mvT hZ (hw _ (List.mem_of_getElem? (i := 35) rfl))) (notFace_of_selects (args := #[]) (mvT hZ (hw _ (List.mem_of_getElem? (i := 37) rfl)))) (mvT hZ (hw _ (List.mem_of_getElem? (i := 37) rfl))) (mvT hZ (hw _ (List.mem_of_getElem? (i := 36) rfl))) (by decide) (own_fill (W0 := 0) (n0 := n0) hx X51.admits hl hZ W_ hK.1 hK.2 ag E57 u56 F61 F59 (SX.ext O65.2) (by decide) (by decide)) q78a q78c (g := (mkF m 24 #[rv a, .val .null] [(.ref a)])) rfl (by rw [hml]; rfl) (Steps.refl _) (argsL := []) (rest := []) (lenOf (by decide +kernel : parseMethodDescriptor "()Ljava/lang/Throwable;" = some ⟨[], some (.object "java/lang/Throwable")⟩) rfl) rfl (by show 2 * 0 + _ ≤ _; exact Nat.le_of_eq rfl) (hb hby d4_24) (fun _ _ => ⟨rfl, e52, (by decide : 0 + 1 ≤ _), (by decide : 0 + 2752 ≤ _)⟩)
  dsimp only [Pt.U, Pt.locs, Pt.cells, Pt.slots] at X71 l74 y75 z76 st77 hQ73
  subst l74 y75 z76
  obtain ⟨rfl, N79, K_, U_, ff_⟩ := hQ73
  have N81 := Fr.app N55 N79
  have E82 := (E57.keep K_)
  have Z83 := Nat.le_trans Z64 K_.1
  have O84 := O65.keep K_ (allS ag all0)
  have K85 := K66.trans K_ (allS (Or.inl (List.mem_of_getElem? (i := 0) rfl)) all0)
  have F86 := ff_ _ _ _ _ F63 (slot_ne (Or.inl (hw _ (List.mem_of_getElem? (i := 58) rfl))) (Or.inr (hw _ (List.mem_of_getElem? (i := 63) rfl))) (by decide) (show parseFieldDescriptor "Ljava/lang/Object;" = some (.object "java/lang/Object") from by decide +kernel) (show parseFieldDescriptor "Lcom/example/portunus/portunus/ExitCode;" = some (.object "com/example/portunus/portunus/ExitCode") from by decide +kernel)) (slot_ne (Or.inl (hw _ (List.mem_of_getElem? (i := 59) rfl))) (Or.inr (hw _ (List.mem_of_getElem? (i := 63) rfl))) (by decide) (show parseFieldDescriptor "I" = some .int from by decide +kernel) (show parseFieldDescriptor "Lcom/example/portunus/portunus/ExitCode;" = some (.object "com/example/portunus/portunus/ExitCode") from by decide +kernel)) (slot_ne (Or.inl (hw _ (List.mem_of_getElem? (i := 30) rfl))) (Or.inr (hw _ (List.mem_of_getElem? (i := 63) rfl))) (by decide) (show parseFieldDescriptor "[Ljava/lang/StackTraceElement;" = some (.array (.object "java/lang/StackTraceElement")) from by decide +kernel) (show parseFieldDescriptor "Lcom/example/portunus/portunus/ExitCode;" = some (.object "com/example/portunus/portunus/ExitCode") from by decide +kernel))
  have F87 := ff_ _ _ _ _ F62 (slot_ne (Or.inl (hw _ (List.mem_of_getElem? (i := 58) rfl))) (Or.inl (hw _ (List.mem_of_getElem? (i := 57) rfl))) (by decide) (show parseFieldDescriptor "Ljava/lang/Object;" = some (.object "java/lang/Object") from by decide +kernel) (show parseFieldDescriptor "Ljava/lang/String;" = some (.object "java/lang/String") from by decide +kernel)) (slot_ne (Or.inl (hw _ (List.mem_of_getElem? (i := 59) rfl))) (Or.inl (hw _ (List.mem_of_getElem? (i := 57) rfl))) (by decide) (show parseFieldDescriptor "I" = some .int from by decide +kernel) (show parseFieldDescriptor "Ljava/lang/String;" = some (.object "java/lang/String") from by decide +kernel)) (slot_ne (Or.inl (hw _ (List.mem_of_getElem? (i := 30) rfl))) (Or.inl (hw _ (List.mem_of_getElem? (i := 57) rfl))) (by decide) (show parseFieldDescriptor "[Ljava/lang/StackTraceElement;" = some (.array (.object "java/lang/StackTraceElement")) from by decide +kernel) (show parseFieldDescriptor "Ljava/lang/String;" = some (.object "java/lang/String") from by decide +kernel))
  have F88 := ff_ _ _ _ _ F58 (slot_ne (Or.inl (hw _ (List.mem_of_getElem? (i := 58) rfl))) (Or.inl (hw _ (List.mem_of_getElem? (i := 27) rfl))) (by decide) (show parseFieldDescriptor "Ljava/lang/Object;" = some (.object "java/lang/Object") from by decide +kernel) (show parseFieldDescriptor "Ljava/lang/Throwable;" = some (.object "java/lang/Throwable") from by decide +kernel)) (slot_ne (Or.inl (hw _ (List.mem_of_getElem? (i := 59) rfl))) (Or.inl (hw _ (List.mem_of_getElem? (i := 27) rfl))) (by decide) (show parseFieldDescriptor "I" = some .int from by decide +kernel) (show parseFieldDescriptor "Ljava/lang/Throwable;" = some (.object "java/lang/Throwable") from by decide +kernel)) (slot_ne (Or.inl (hw _ (List.mem_of_getElem? (i := 30) rfl))) (Or.inl (hw _ (List.mem_of_getElem? (i := 27) rfl))) (by decide) (show parseFieldDescriptor "[Ljava/lang/StackTraceElement;" = some (.array (.object "java/lang/StackTraceElement")) from by decide +kernel) (show parseFieldDescriptor "Ljava/lang/Throwable;" = some (.object "java/lang/Throwable") from by decide +kernel))
  refine own_tr (S' := (T67.setTop (mkF m 27 #[rv a, .val .null] [(.ref a)]))) st77 ?_
  refine own_bk (S' := (T67.setTop (mkF m 28 #[rv a, .val .null] []))) (fun t_ kont => XS.pop X71.here hx rfl (hb hby d4_27) rfl rfl kont) ?_
  refine own_bk (S' := (T67.setTop (mkF m 29 #[rv a, .val .null] [(.ref a)]))) (fun t_ kont => XS.aloadN X71.here hx rfl (hb hby d4_28) rfl rfl kont) ?_
  refine own_bk (S' := (T67.setTop (mkF m 30 #[rv a, .val .null] [.null, (.ref a)]))) (fun t_ kont => XS.aloadN X71.here hx rfl (hb hby d4_29) rfl rfl kont) ?_
  obtain ⟨T89, h90, X91, e92, W93, st94⟩ := putF X71 hx hZ hown (host := "") (Or.inl (hw _ (List.mem_of_getElem? (i := 61) rfl))) Via.refl rfl F87 E82 (Or.inl (hw _ (List.mem_of_getElem? (i := 57) rfl))) (hw _ (List.mem_of_getElem? (i := 5) rfl)) (ty := (.object "java/lang/String")) (by decide +kernel) rfl rfl (g := (mkF m 30 #[rv a, .val .null] [.null, (.ref a)])) rfl rfl (hb hby d4_30)
  have N95 := Fr.snoc X91 N81 ag
  have u96 := Unt.wr W93 U_
  have E97 := (E82.wr W93)
  have F98 := (F86.other W93 (Or.inr (slot_ne (Or.inr (hw _ (List.mem_of_getElem? (i := 63) rfl))) (Or.inl (hw _ (List.mem_of_getElem? (i := 57) rfl))) (by decide) (show parseFieldDescriptor "Lcom/example/portunus/portunus/ExitCode;" = some (.object "com/example/portunus/portunus/ExitCode") from by decide +kernel) (show parseFieldDescriptor "Ljava/lang/String;" = some (.object "java/lang/String") from by decide +kernel))))
  have F99 := (F87.same W93)
  have F100 := (F88.other W93 (Or.inr (slot_ne (Or.inl (hw _ (List.mem_of_getElem? (i := 27) rfl))) (Or.inl (hw _ (List.mem_of_getElem? (i := 57) rfl))) (by decide) (show parseFieldDescriptor "Ljava/lang/Throwable;" = some (.object "java/lang/Throwable") from by decide +kernel) (show parseFieldDescriptor "Ljava/lang/String;" = some (.object "java/lang/String") from by decide +kernel))))
  have Z101 := Nat.le_trans Z83 (Keep.of_wr W93).1
  have O102 := O84.wr W93 ag
  have K103 := K85.wr W93 (Or.inl (List.mem_of_getElem? (i := 0) rfl))
  refine own_bk (S' := (T89.setTop (mkF m 33 #[rv a, .val .null] []))) st94 ?_
  exact own_retV X91 hx hlk Bd.returns (hb hby d4_33) (by rw [e92]; exact ⟨rfl, N95, K103, E97, u96, F98, F99, F100⟩) (by decide) (by decide)
theorem ef_rmThrR (m : MethodId) (x0 : Addr) (x1 : Addr) : entryFrame m #[(.ref x0), (.ref x1)] 2 = mkF m 0 #[.val (.ref x0), .val (.ref x1)] [] := by first | (simp [entryFrame, mkF, argsToLocals, Value.category, maxLocals]; done) | rfl
def Q_rmThrR (Z : State) (a rS rL mg : Addr) (h0 : Heap) (n0 : Nat) (v : Option Value) (h : Heap) (L : List Loc) : Prop := v = none ∧ Fr n0 L ∧ Keep h0 h [a] ∧ Exa Z h a "com/example/portunus/portunus/CommandFailure" ∧ Unt h a ∧ Fld Z h a "com/example/portunus/portunus/CommandFailure" "exitCode" "Lcom/example/portunus/portunus/ExitCode;" .null ∧ Fld Z h a "java/lang/Throwable" "detailMessage" "Ljava/lang/String;" (.ref mg) ∧ Fld Z h a "java/lang/Throwable" "cause" "Ljava/lang/Throwable;" (.ref a)
set_option maxRecDepth 65536 in
set_option maxHeartbeats 40000000 in
theorem rmThrR (l : Launch) (Z : State) (a0 : Array Value) (hw : ∀ d ∈ tables_1, d.before a0 Z = true) (ws : List Jvm.Cond) (a rS rL mg : Addr) (h0 : Heap) (n0 : Nat) (Z0 : n0 ≤ h0.size) (hl : l.stackTraces = true) (O : Old Z n0 h0) (SX : Sta Z Z.heap "java/lang/Throwable" "UNASSIGNED_STACK" "[Ljava/lang/StackTraceElement;" (.ref rS)) (SY : Sta Z Z.heap "java/lang/Throwable" "SUPPRESSED_SENTINEL" "Ljava/util/List;" (.ref rL)) (E : Exa Z h0 a "com/example/portunus/portunus/CommandFailure") (U : Unt h0 a) (ag : n0 ≤ a) (F0 : Fld Z h0 a "java/lang/Throwable" "cause" "Ljava/lang/Throwable;" .null) (F1 : Fld Z h0 a "java/lang/Throwable" "stackTrace" "[Ljava/lang/StackTraceElement;" .null) (F2 : Fld Z h0 a "java/lang/Throwable" "suppressedExceptions" "Ljava/util/List;" .null) (F3 : Fld Z h0 a "java/lang/Throwable" "backtrace" "Ljava/lang/Object;" .null) (F4 : Fld Z h0 a "java/lang/Throwable" "detailMessage" "Ljava/lang/String;" .null) (F5 : Fld Z h0 a "com/example/portunus/portunus/CommandFailure" "exitCode" "Lcom/example/portunus/portunus/ExitCode;" .null) :
    MetFree l (⟨"java/lang/Throwable", "<init>", "(Ljava/lang/String;)V"⟩ : MethodName) (head1 (Jvm.Cond.code (⟨"java/lang/Throwable", "<init>", "(Ljava/lang/String;)V"⟩ : MethodName) jdk_78_method_2_code 2 none :: ws) ({ frames := 3, cells := 1, slots := 2752, locals := 44 } : Room)) (fun as_ U_ => as_ = #[(.ref a), (.ref mg)] ∧ Z.Warmed39 U_.vm ∧ U_.heap = h0) (fun _ _ bl s _ => s.vm.MethodsKnown ∧ s.vm.FramesKnown bl) (fun _ U_ o_ U2_ => ∃ v_ L_, o_ = .returned v_ ∧ (Q_rmThrR Z a rS rL mg h0 n0) v_ U2_.heap L_ ∧ FrameEnd U_ o_ U2_ L_ ({ frames := 3, cells := 1, slots := 2752, locals := 44 } : Room).cells ({ frames := 3, cells := 1, slots := 2752, locals := 44 } : Room).slots) := by
  refine MetFree.of_bodySF (plainFor_of_name (by first | (simp [plainName, overriddenIn]; done) | decide +kernel : plainName "java/lang/Throwable" = true)) hisR ?_
  intro p e s m args below meth c s₁ Bd hml0 hP hK
  obtain ⟨rfl, hZ, hh⟩ := hP
  have hx := Bd.exec
  have hby := Bd.bytes
  have hlk := Bd.notSynchronized
  have hml : c.maxLocals = 2 := hml0
  have hown : s.vm.findClass "java/lang/Throwable" = some m.cls := findClass_of_methodNamed Bd.named
  have hnm := (name_of_methodNamed Bd.named Bd.method).1
  have X0 : Stand p l e ({ frames := 3, cells := 1, slots := 2752, locals := 44 } : Room) s m #[(.ref a), (.ref mg)] below meth c s₁ [] 0 0 := Stand.of_body Bd
  have e0 : s₁.heap = h0 := by rw [← hh, Bd.state]; rfl
  have N0 := Fr.nil n0
  show own_Go p e below (own_R s below (Q_rmThrR Z a rS rL mg h0 n0) ({ frames := 3, cells := 1, slots := 2752, locals := 44 } : Room).cells ({ frames := 3, cells := 1, slots := 2752, locals := 44 } : Room).slots) (s₁.setTop (entryFrame m #[(.ref a), (.ref mg)] 2))
  refine own_bk (S' := (s₁.setTop (mkF m 0 #[rv a, rv mg] []))) (fun t_ kont => castTop (ef_rmThrR m (a) (mg)) kont) ?_
  have W_ : own_W #[.ref a, (.ref mg)] s := fun d hd ok => mvX (by rw [hh]; exact ThS.ext O.2 ThS.start) hZ ok (hw d hd)
  refine own_bk (S' := (s₁.setTop (mkF m 1 #[rv a, rv mg] [(.ref a)]))) (fun t_ kont => XS.aloadN X0.here hx rfl (hb hby d4_0) rfl rfl kont) ?_
  obtain ⟨T1, X2, e3, st4⟩ := initO X0 hx hZ hown (hw _ (List.mem_of_getElem? (i := 23) rfl)) (hw _ (List.mem_of_getElem? (i := 24) rfl)) (hw _ (List.mem_of_getElem? (i := 25) rfl)) e0 (g := (mkF m 1 #[rv a, rv mg] [(.ref a)])) rfl (by rw [hml]; rfl) rfl (hb hby d4_1) (by decide) (W := 0) (by show 2 * 0 + _ ≤ _; exact Nat.le_of_eq rfl) (by decide)
  refine own_bk (S' := (T1.setTop (mkF m 4 #[rv a, rv mg] []))) st4 ?_
  refine own_bk (S' := (T1.setTop (mkF m 5 #[rv a, rv mg] [(.ref a)]))) (fun t_ kont => XS.aloadN X2.here hx rfl (hb hby d4_4) rfl rfl kont) ?_
  refine own_bk (S' := (T1.setTop (mkF m 6 #[rv a, rv mg] [(.ref a), (.ref a)]))) (fun t_ kont => XS.aloadN X2.here hx rfl (hb hby d4_5) rfl rfl kont) ?_
  obtain ⟨T5, h6, X7, e8, W9, st10⟩ := putF X2 hx hZ hown (host := "") (Or.inl (hw _ (List.mem_of_getElem? (i := 26) rfl))) Via.refl e3 F0 E (Or.inl (hw _ (List.mem_of_getElem? (i := 27) rfl))) (hw _ (List.mem_of_getElem? (i := 5) rfl)) (ty := (.object "java/lang/Throwable")) (by decide +kernel) rfl rfl (g := (mkF m 6 #[rv a, rv mg] [(.ref a), (.ref a)])) rfl rfl (hb hby d4_6)
  have N11 := Fr.snoc X7 N0 ag
  have u12 := Unt.wr W9 U
  have E13 := (E.wr W9)
  have F14 := (F0.same W9)
  have F15 := (F1.other W9 (Or.inr (slot_ne (Or.inl (hw _ (List.mem_of_getElem? (i := 30) rfl))) (Or.inl (hw _ (List.mem_of_getElem? (i := 27) rfl))) (by decide) (show parseFieldDescriptor "[Ljava/lang/StackTraceElement;" = some (.array (.object "java/lang/StackTraceElement")) from by decide +kernel) (show parseFieldDescriptor "Ljava/lang/Throwable;" = some (.object "java/lang/Throwable") from by decide +kernel))))
  have F16 := (F2.other W9 (Or.inr (slot_ne (Or.inl (hw _ (List.mem_of_getElem? (i := 33) rfl))) (Or.inl (hw _ (List.mem_of_getElem? (i := 27) rfl))) (by decide) (show parseFieldDescriptor "Ljava/util/List;" = some (.object "java/util/List") from by decide +kernel) (show parseFieldDescriptor "Ljava/lang/Throwable;" = some (.object "java/lang/Throwable") from by decide +kernel))))
  have F17 := (F3.other W9 (Or.inr (slot_ne (Or.inl (hw _ (List.mem_of_getElem? (i := 58) rfl))) (Or.inl (hw _ (List.mem_of_getElem? (i := 27) rfl))) (by decide) (show parseFieldDescriptor "Ljava/lang/Object;" = some (.object "java/lang/Object") from by decide +kernel) (show parseFieldDescriptor "Ljava/lang/Throwable;" = some (.object "java/lang/Throwable") from by decide +kernel))))
  have F18 := (F4.other W9 (Or.inr (slot_ne (Or.inl (hw _ (List.mem_of_getElem? (i := 57) rfl))) (Or.inl (hw _ (List.mem_of_getElem? (i := 27) rfl))) (by decide) (show parseFieldDescriptor "Ljava/lang/String;" = some (.object "java/lang/String") from by decide +kernel) (show parseFieldDescriptor "Ljava/lang/Throwable;" = some (.object "java/lang/Throwable") from by decide +kernel))))
  have F19 := (F5.other W9 (Or.inr (slot_ne (Or.inr (hw _ (List.mem_of_getElem? (i := 63) rfl))) (Or.inl (hw _ (List.mem_of_getElem? (i := 27) rfl))) (by decide) (show parseFieldDescriptor "Lcom/example/portunus/portunus/ExitCode;" = some (.object "com/example/portunus/portunus/ExitCode") from by decide +kernel) (show parseFieldDescriptor "Ljava/lang/Throwable;" = some (.object "java/lang/Throwable") from by decide +kernel))))
  have Z20 := Nat.le_trans Z0 (Keep.of_wr W9).1
  have O21 := O.wr W9 ag
  have K22 := (Keep.refl h0 [a]).wr W9 (Or.inl (List.mem_of_getElem? (i := 0) rfl))
  refine own_bk (S' := (T5.setTop (mkF m 9 #[rv a, rv mg] []))) st10 ?_
  refine own_bk (S' := (T5.setTop (mkF m 10 #[rv a, rv mg] [(.ref a)]))) (fun t_ kont => XS.aloadN X7.here hx rfl (hb hby d4_9) rfl rfl kont) ?_
  obtain ⟨T23, X24, e25, st26⟩ := getS2 X7 hx hZ hown (host := "") (Or.inl (hw _ (List.mem_of_getElem? (i := 28) rfl))) Via.refl e8 (SX.ext O21.2) (g := (mkF m 10 #[rv a, rv mg] [(.ref a)])) rfl (hb hby d4_10)
  refine own_bk (S' := (T23.setTop (mkF m 13 #[rv a, rv mg] [(.ref rS), (.ref a)]))) st26 ?_
  obtain ⟨T27, h28, X29, e30, W31, st32⟩ := putF X24 hx hZ hown (host := "") (Or.inl (hw _ (List.mem_of_getElem? (i := 29) rfl))) Via.refl e25 F15 E13 (Or.inl (hw _ (List.mem_of_getElem? (i := 30) rfl))) (hw _ (List.mem_of_getElem? (i := 5) rfl)) (ty := (.array (.object "java/lang/StackTraceElement"))) (by decide +kernel) rfl rfl (g := (mkF m 13 #[rv a, rv mg] [(.ref rS), (.ref a)])) rfl rfl (hb hby d4_13)
  have N33 := Fr.snoc X29 N11 ag
  have u34 := Unt.wr W31 u12
  have E35 := (E13.wr W31)
  have F36 := (F14.other W31 (Or.inr (slot_ne (Or.inl (hw _ (List.mem_of_getElem? (i := 27) rfl))) (Or.inl (hw _ (List.mem_of_getElem? (i := 30) rfl))) (by decide) (show parseFieldDescriptor "Ljava/lang/Throwable;" = some (.object "java/lang/Throwable") from by decide +kernel) (show parseFieldDescriptor "[Ljava/lang/StackTraceElement;" = some (.array (.object "java/lang/StackTraceElement")) from by decide +kernel))))
  have F37 := (F15.same W31)
  have F38 := (F16.other W31 (Or.inr (slot_ne (Or.inl (hw _ (List.mem_of_getElem? (i := 33) rfl))) (Or.inl (hw _ (List.mem_of_getElem? (i := 30) rfl))) (by decide) (show parseFieldDescriptor "Ljava/util/List;" = some (.object "java/util/List") from by decide +kernel) (show parseFieldDescriptor "[Ljava/lang/StackTraceElement;" = some (.array (.object "java/lang/StackTraceElement")) from by decide +kernel))))
  have F39 := (F17.other W31 (Or.inr (slot_ne (Or.inl (hw _ (List.mem_of_getElem? (i := 58) rfl))) (Or.inl (hw _ (List.mem_of_getElem? (i := 30) rfl))) (by decide) (show parseFieldDescriptor "Ljava/lang/Object;" = some (.object "java/lang/Object") from by decide +kernel) (show parseFieldDescriptor "[Ljava/lang/StackTraceElement;" = some (.array (.object "java/lang/StackTraceElement")) from by decide +kernel))))
  have F40 := (F18.other W31 (Or.inr (slot_ne (Or.inl (hw _ (List.mem_of_getElem? (i := 57) rfl))) (Or.inl (hw _ (List.mem_of_getElem? (i := 30) rfl))) (by decide) (show parseFieldDescriptor "Ljava/lang/String;" = some (.object "java/lang/String") from by decide +kernel) (show parseFieldDescriptor "[Ljava/lang/StackTraceElement;" = some (.array (.object "java/lang/StackTraceElement")) from by decide +kernel))))
  have F41 := (F19.other W31 (Or.inr (slot_ne (Or.inr (hw _ (List.mem_of_getElem? (i := 63) rfl))) (Or.inl (hw _ (List.mem_of_getElem? (i := 30) rfl))) (by decide) (show parseFieldDescriptor "Lcom/example/portunus/portunus/ExitCode;" = some (.object "com/example/portunus/portunus/ExitCode") from by decide +kernel) (show parseFieldDescriptor "[Ljava/lang/StackTraceElement;" = some (.array (.object "java/lang/StackTraceElement")) from by decide +kernel))))
  have Z42 := Nat.le_trans Z20 (Keep.of_wr W31).1
  have O43 := O21.wr W31 ag
  have K44 := K22.wr W31 (Or.inl (List.mem_of_getElem? (i := 0) rfl))
  refine own_bk (S' := (T27.setTop (mkF m 16 #[rv a, rv mg] []))) st32 ?_
  refine own_bk (S' := (T27.setTop (mkF m 17 #[rv a, rv mg] [(.ref a)]))) (fun t_ kont => XS.aloadN X29.here hx rfl (hb hby d4_16) rfl rfl kont) ?_
  obtain ⟨T45, X46, e47, st48⟩ := getS2 X29 hx hZ hown (host := "") (Or.inl (hw _ (List.mem_of_getElem? (i := 31) rfl))) Via.refl e30 (SY.ext O43.2) (g := (mkF m 17 #[rv a, rv mg] [(.ref a)])) rfl (hb hby d4_17)
  refine own_bk (S' := (T45.setTop (mkF m 20 #[rv a, rv mg] [(.ref rL), (.ref a)]))) st48 ?_
  obtain ⟨T49, h50, X51, e52, W53, st54⟩ := putF X46 hx hZ hown (host := "") (Or.inl (hw _ (List.mem_of_getElem? (i := 32) rfl))) Via.refl e47 F38 E35 (Or.inl (hw _ (List.mem_of_getElem? (i := 33) rfl))) (hw _ (List.mem_of_getElem? (i := 5) rfl)) (ty := (.object "java/util/List")) (by decide +kernel) rfl rfl (g := (mkF m 20 #[rv a, rv mg] [(.ref rL), (.ref a)])) rfl rfl (hb hby d4_20)
  have N55 := Fr.snoc X51 N33 ag
  have u56 := Unt.wr W53 u34
  have E57 := (E35.wr W53)
  have F58 := (F36.other W53 (Or.inr (slot_ne (Or.inl (hw _ (List.mem_of_getElem? (i := 27) rfl))) (Or.inl (hw _ (List.mem_of_getElem? (i := 33) rfl))) (by decide) (show parseFieldDescriptor "Ljava/lang/Throwable;" = some (.object "java/lang/Throwable") from by decide +kernel) (show parseFieldDescriptor "Ljava/util/List;" = some (.object "java/util/List") from by decide +kernel))))
  have F59 := (F37.other W53 (Or.inr (slot_ne (Or.inl (hw _ (List.mem_of_getElem? (i := 30) rfl))) (Or.inl (hw _ (List.mem_of_getElem? (i := 33) rfl))) (by decide) (show parseFieldDescriptor "[Ljava/lang/StackTraceElement;" = some (.array (.object "java/lang/StackTraceElement")) from by decide +kernel) (show parseFieldDescriptor "Ljava/util/List;" = some (.object "java/util/List") from by decide +kernel))))
  have F60 := (F38.same W53)
  have F61 := (F39.other W53 (Or.inr (slot_ne (Or.inl (hw _ (List.mem_of_getElem? (i := 58) rfl))) (Or.inl (hw _ (List.mem_of_getElem? (i := 33) rfl))) (by decide) (show parseFieldDescriptor "Ljava/lang/Object;" = some (.object "java/lang/Object") from by decide +kernel) (show parseFieldDescriptor "Ljava/util/List;" = some (.object "java/util/List") from by decide +kernel))))
  have F62 := (F40.other W53 (Or.inr (slot_ne (Or.inl (hw _ (List.mem_of_getElem? (i := 57) rfl))) (Or.inl (hw _ (List.mem_of_getElem? (i := 33) rfl))) (by decide) (show parseFieldDescriptor "Ljava/lang/String;" = some (.object "java/lang/String") from by decide +kernel) (show parseFieldDescriptor "Ljava/util/List;" = some (.object "java/util/List") from by decide +kernel))))
  have F63 := (F41.other W53 (Or.inr (slot_ne (Or.inr (hw _ (List.mem_of_getElem? (i := 63) rfl))) (Or.inl (hw _ (List.mem_of_getElem? (i := 33) rfl))) (by decide) (show parseFieldDescriptor "Lcom/example/portunus/portunus/ExitCode;" = some (.object "com/example/portunus/portunus/ExitCode") from by decide +kernel) (show parseFieldDescriptor "Ljava/util/List;" = some (.object "java/util/List") from by decide +kernel))))
  have Z64 := Nat.le_trans Z42 (Keep.of_wr W53).1
  have O65 := O43.wr W53 ag
  have K66 := K44.wr W53 (Or.inl (List.mem_of_getElem? (i := 0) rfl))
  refine own_bk (S' := (T49.setTop (mkF m 23 #[rv a, rv mg] []))) st54 ?_
  refine own_bk (S' := (T49.setTop (mkF m 24 #[rv a, rv mg] [(.ref a)]))) (fun t_ kont => XS.aloadN X51.here hx rfl (hb hby d4_23) rfl rfl kont) ?_
  obtain ⟨cqq78, kqq78, q78a, q78b, q78c⟩ := isOf hZ e52 E57
  obtain ⟨_, _, ⟨T67, L68, k69, n70⟩, -, X71, ⟨Lc72, hQ73, l74, y75, z76⟩, st77⟩ := X51.virtualBack hx (y := (⟨"java/lang/Throwable", "fillInStackTrace", "()Ljava/lang/Throwable;"⟩ : MethodName)) (z := (⟨"java/lang/Throwable", "fillInStackTrace", "()Ljava/lang/Throwable;"⟩ : MethodName)) hown (mvT hZ (hw _ (List.mem_of_getElem? (i := 34) rfl))) (mvT hZ (hw _ (List.mem_of_getElem? (i := 35) rfl))) (notFace_of_selects (args := #[]) (mvT hZ (hw _ (List.mem_of_getElem? (i := 37) rfl)))) (mvT hZ (hw _ (List.mem_of_getElem? (i := 37) rfl))) (mvT hZ (hw _ (List.mem_of_getElem? (i := 36) rfl))) (by decide) (own_fill (W0 := 0) (n0 := n0) hx X51.admits hl hZ W_ hK.1 hK.2 ag E57 u56 F61 F59 (SX.ext O65.2) (by decide) (by decide)) q78a q78c (g := (mkF m 24 #[rv a, rv mg] [(.ref a)])) rfl (by rw [hml]; rfl) (Steps.refl _) (argsL := []) (rest := []) (lenOf (by decide +kernel : parseMethodDescriptor "()Ljava/lang/Throwable;" = some ⟨[], some (.object "java/lang/Throwable")⟩) rfl) rfl (by show 2 * 0 + _ ≤ _; exact Nat.le_of_eq rfl) (hb hby d4_24) (fun _ _ => ⟨rfl, e52, (by decide : 0 + 1 ≤ _), (by decide : 0 + 2752 ≤ _)⟩)
  dsimp only [Pt.U, Pt.locs, Pt.cells, Pt.slots] at X71 l74 y75 z76 st77 hQ73
  subst l74 y75 z76
  obtain ⟨rfl, N79, K_, U_, ff_⟩ := hQ73
  have N81 := Fr.app N55 N79
  have E82 := (E57.keep K_)
  have Z83 := Nat.le_trans Z64 K_.1
  have O84 := O65.keep K_ (allS ag all0)
  have K85 := K66.trans K_ (allS (Or.inl (List.mem_of_getElem? (i := 0) rfl)) all0)
  have F86 := ff_ _ _ _ _ F63 (slot_ne (Or.inl (hw _ (List.mem_of_getElem? (i := 58) rfl))) (Or.inr (hw _ (List.mem_of_getElem? (i := 63) rfl))) (by decide) (show parseFieldDescriptor "Ljava/lang/Object;" = some (.object "java/lang/Object") from by decide +kernel) (show parseFieldDescriptor "Lcom/example/portunus/portunus/ExitCode;" = some (.object "com/example/portunus/portunus/ExitCode") from by decide +kernel)) (slot_ne (Or.inl (hw _ (List.mem_of_getElem? (i := 59) rfl))) (Or.inr (hw _ (List.mem_of_getElem? (i := 63) rfl))) (by decide) (show parseFieldDescriptor "I" = some .int from by decide +kernel) (show parseFieldDescriptor "Lcom/example/portunus/portunus/ExitCode;" = some (.object "com/example/portunus/portunus/ExitCode") from by decide +kernel)) (slot_ne (Or.inl (hw _ (List.mem_of_getElem? (i := 30) rfl))) (Or.inr (hw _ (List.mem_of_getElem? (i := 63) rfl))) (by decide) (show parseFieldDescriptor "[Ljava/lang/StackTraceElement;" = some (.array (.object "java/lang/StackTraceElement")) from by decide +kernel) (show parseFieldDescriptor "Lcom/example/portunus/portunus/ExitCode;" = some (.object "com/example/portunus/portunus/ExitCode") from by decide +kernel))
  have F87 := ff_ _ _ _ _ F62 (slot_ne (Or.inl (hw _ (List.mem_of_getElem? (i := 58) rfl))) (Or.inl (hw _ (List.mem_of_getElem? (i := 57) rfl))) (by decide) (show parseFieldDescriptor "Ljava/lang/Object;" = some (.object "java/lang/Object") from by decide +kernel) (show parseFieldDescriptor "Ljava/lang/String;" = some (.object "java/lang/String") from by decide +kernel)) (slot_ne (Or.inl (hw _ (List.mem_of_getElem? (i := 59) rfl))) (Or.inl (hw _ (List.mem_of_getElem? (i := 57) rfl))) (by decide) (show parseFieldDescriptor "I" = some .int from by decide +kernel) (show parseFieldDescriptor "Ljava/lang/String;" = some (.object "java/lang/String") from by decide +kernel)) (slot_ne (Or.inl (hw _ (List.mem_of_getElem? (i := 30) rfl))) (Or.inl (hw _ (List.mem_of_getElem? (i := 57) rfl))) (by decide) (show parseFieldDescriptor "[Ljava/lang/StackTraceElement;" = some (.array (.object "java/lang/StackTraceElement")) from by decide +kernel) (show parseFieldDescriptor "Ljava/lang/String;" = some (.object "java/lang/String") from by decide +kernel))
  have F88 := ff_ _ _ _ _ F58 (slot_ne (Or.inl (hw _ (List.mem_of_getElem? (i := 58) rfl))) (Or.inl (hw _ (List.mem_of_getElem? (i := 27) rfl))) (by decide) (show parseFieldDescriptor "Ljava/lang/Object;" = some (.object "java/lang/Object") from by decide +kernel) (show parseFieldDescriptor "Ljava/lang/Throwable;" = some (.object "java/lang/Throwable") from by decide +kernel)) (slot_ne (Or.inl (hw _ (List.mem_of_getElem? (i := 59) rfl))) (Or.inl (hw _ (List.mem_of_getElem? (i := 27) rfl))) (by decide) (show parseFieldDescriptor "I" = some .int from by decide +kernel) (show parseFieldDescriptor "Ljava/lang/Throwable;" = some (.object "java/lang/Throwable") from by decide +kernel)) (slot_ne (Or.inl (hw _ (List.mem_of_getElem? (i := 30) rfl))) (Or.inl (hw _ (List.mem_of_getElem? (i := 27) rfl))) (by decide) (show parseFieldDescriptor "[Ljava/lang/StackTraceElement;" = some (.array (.object "java/lang/StackTraceElement")) from by decide +kernel) (show parseFieldDescriptor "Ljava/lang/Throwable;" = some (.object "java/lang/Throwable") from by decide +kernel))
  refine own_tr (S' := (T67.setTop (mkF m 27 #[rv a, rv mg] [(.ref a)]))) st77 ?_
  refine own_bk (S' := (T67.setTop (mkF m 28 #[rv a, rv mg] []))) (fun t_ kont => XS.pop X71.here hx rfl (hb hby d4_27) rfl rfl kont) ?_
  refine own_bk (S' := (T67.setTop (mkF m 29 #[rv a, rv mg] [(.ref a)]))) (fun t_ kont => XS.aloadN X71.here hx rfl (hb hby d4_28) rfl rfl kont) ?_
  refine own_bk (S' := (T67.setTop (mkF m 30 #[rv a, rv mg] [(.ref mg), (.ref a)]))) (fun t_ kont => XS.aloadN X71.here hx rfl (hb hby d4_29) rfl rfl kont) ?_
  obtain ⟨T89, h90, X91, e92, W93, st94⟩ := putF X71 hx hZ hown (host := "") (Or.inl (hw _ (List.mem_of_getElem? (i := 61) rfl))) Via.refl rfl F87 E82 (Or.inl (hw _ (List.mem_of_getElem? (i := 57) rfl))) (hw _ (List.mem_of_getElem? (i := 5) rfl)) (ty := (.object "java/lang/String")) (by decide +kernel) rfl rfl (g := (mkF m 30 #[rv a, rv mg] [(.ref mg), (.ref a)])) rfl rfl (hb hby d4_30)
  have N95 := Fr.snoc X91 N81 ag
  have u96 := Unt.wr W93 U_
  have E97 := (E82.wr W93)
  have F98 := (F86.other W93 (Or.inr (slot_ne (Or.inr (hw _ (List.mem_of_getElem? (i := 63) rfl))) (Or.inl (hw _ (List.mem_of_getElem? (i := 57) rfl))) (by decide) (show parseFieldDescriptor "Lcom/example/portunus/portunus/ExitCode;" = some (.object "com/example/portunus/portunus/ExitCode") from by decide +kernel) (show parseFieldDescriptor "Ljava/lang/String;" = some (.object "java/lang/String") from by decide +kernel))))
  have F99 := (F87.same W93)
  have F100 := (F88.other W93 (Or.inr (slot_ne (Or.inl (hw _ (List.mem_of_getElem? (i := 27) rfl))) (Or.inl (hw _ (List.mem_of_getElem? (i := 57) rfl))) (by decide) (show parseFieldDescriptor "Ljava/lang/Throwable;" = some (.object "java/lang/Throwable") from by decide +kernel) (show parseFieldDescriptor "Ljava/lang/String;" = some (.object "java/lang/String") from by decide +kernel))))
  have Z101 := Nat.le_trans Z83 (Keep.of_wr W93).1
  have O102 := O84.wr W93 ag
  have K103 := K85.wr W93 (Or.inl (List.mem_of_getElem? (i := 0) rfl))
  refine own_bk (S' := (T89.setTop (mkF m 33 #[rv a, rv mg] []))) st94 ?_
  exact own_retV X91 hx hlk Bd.returns (hb hby d4_33) (by rw [e92]; exact ⟨rfl, N95, K103, E97, u96, F98, F99, F100⟩) (by decide) (by decide)
theorem d3_0 : decode jdk_59_method_2_code 0 = .ok (.aload_n 0, 1) := by decide +kernel
theorem d3_1 : decode jdk_59_method_2_code 1 = .ok (.aload_n 1, 1) := by decide +kernel
theorem d3_2 : decode jdk_59_method_2_code 2 = .ok (.invokespecial 7, 3) := by decide +kernel
theorem d3_5 : decode jdk_59_method_2_code 5 = .ok (.return_, 1) := by decide +kernel
theorem ef_rmExcN (m : MethodId) (x0 : Addr) : entryFrame m #[(.ref x0), .null] 2 = mkF m 0 #[.val (.ref x0), .val .null] [] := by first | (simp [entryFrame, mkF, argsToLocals, Value.category, maxLocals]; done) | rfl
def Q_rmExcN (Z : State) (a rS rL : Addr) (h0 : Heap) (n0 : Nat) (v : Option Value) (h : Heap) (L : List Loc) : Prop := v = none ∧ Fr n0 L ∧ Keep h0 h [a] ∧ Exa Z h a "com/example/portunus/portunus/CommandFailure" ∧ Unt h a ∧ Fld Z h a "com/example/portunus/portunus/CommandFailure" "exitCode" "Lcom/example/portunus/portunus/ExitCode;" .null ∧ Fld Z h a "java/lang/Throwable" "detailMessage" "Ljava/lang/String;" .null ∧ Fld Z h a "java/lang/Throwable" "cause" "Ljava/lang/Throwable;" (.ref a)
set_option maxRecDepth 65536 in
set_option maxHeartbeats 40000000 in
theorem rmExcN (l : Launch) (Z : State) (a0 : Array Value) (hw : ∀ d ∈ tables_1, d.before a0 Z = true) (ws : List Jvm.Cond) (a rS rL : Addr) (h0 : Heap) (n0 : Nat) (Z0 : n0 ≤ h0.size) (hl : l.stackTraces = true) (O : Old Z n0 h0) (SX : Sta Z Z.heap "java/lang/Throwable" "UNASSIGNED_STACK" "[Ljava/lang/StackTraceElement;" (.ref rS)) (SY : Sta Z Z.heap "java/lang/Throwable" "SUPPRESSED_SENTINEL" "Ljava/util/List;" (.ref rL)) (E : Exa Z h0 a "com/example/portunus/portunus/CommandFailure") (U : Unt h0 a) (ag : n0 ≤ a) (F0 : Fld Z h0 a "java/lang/Throwable" "cause" "Ljava/lang/Throwable;" .null) (F1 : Fld Z h0 a "java/lang/Throwable" "stackTrace" "[Ljava/lang/StackTraceElement;" .null) (F2 : Fld Z h0 a "java/lang/Throwable" "suppressedExceptions" "Ljava/util/List;" .null) (F3 : Fld Z h0 a "java/lang/Throwable" "backtrace" "Ljava/lang/Object;" .null) (F4 : Fld Z h0 a "java/lang/Throwable" "detailMessage" "Ljava/lang/String;" .null) (F5 : Fld Z h0 a "com/example/portunus/portunus/CommandFailure" "exitCode" "Lcom/example/portunus/portunus/ExitCode;" .null) :
    MetFree l (⟨"java/lang/Exception", "<init>", "(Ljava/lang/String;)V"⟩ : MethodName) (head1 (Jvm.Cond.code (⟨"java/lang/Exception", "<init>", "(Ljava/lang/String;)V"⟩ : MethodName) jdk_59_method_2_code 2 none :: ws) ({ frames := 4, cells := 1, slots := 2752, locals := 60 } : Room)) (fun as_ U_ => as_ = #[(.ref a), .null] ∧ Z.Warmed39 U_.vm ∧ U_.heap = h0) (fun _ _ bl s _ => s.vm.MethodsKnown ∧ s.vm.FramesKnown bl) (fun _ U_ o_ U2_ => ∃ v_ L_, o_ = .returned v_ ∧ (Q_rmExcN Z a rS rL h0 n0) v_ U2_.heap L_ ∧ FrameEnd U_ o_ U2_ L_ ({ frames := 4, cells := 1, slots := 2752, locals := 60 } : Room).cells ({ frames := 4, cells := 1, slots := 2752, locals := 60 } : Room).slots) := by
  refine MetFree.of_bodySF (plainFor_of_name (by first | (simp [plainName, overriddenIn]; done) | decide +kernel : plainName "java/lang/Exception" = true)) hisR ?_
  intro p e s m args below meth c s₁ Bd hml0 hP hK
  obtain ⟨rfl, hZ, hh⟩ := hP
  have hx := Bd.exec
  have hby := Bd.bytes
  have hlk := Bd.notSynchronized
  have hml : c.maxLocals = 2 := hml0
  have hown : s.vm.findClass "java/lang/Exception" = some m.cls := findClass_of_methodNamed Bd.named
  have hnm := (name_of_methodNamed Bd.named Bd.method).1
  have X0 : Stand p l e ({ frames := 4, cells := 1, slots := 2752, locals := 60 } : Room) s m #[(.ref a), .null] below meth c s₁ [] 0 0 := Stand.of_body Bd
  have e0 : s₁.heap = h0 := by rw [← hh, Bd.state]; rfl
  have N0 := Fr.nil n0
  show own_Go p e below (own_R s below (Q_rmExcN Z a rS rL h0 n0) ({ frames := 4, cells := 1, slots := 2752, locals := 60 } : Room).cells ({ frames := 4, cells := 1, slots := 2752, locals := 60 } : Room).slots) (s₁.setTop (entryFrame m #[(.ref a), .null] 2))
  refine own_bk (S' := (s₁.setTop (mkF m 0 #[rv a, .val .null] []))) (fun t_ kont => castTop (ef_rmExcN m (a)) kont) ?_
  refine own_bk (S' := (s₁.setTop (mkF m 1 #[rv a, .val .null] [(.ref a)]))) (fun t_ kont => XS.aloadN X0.here hx rfl (hb hby d3_0) rfl rfl kont) ?_
  refine own_bk (S' := (s₁.setTop (mkF m 2 #[rv a, .val .null] [.null, (.ref a)]))) (fun t_ kont => XS.aloadN X0.here hx rfl (hb hby d3_1) rfl rfl kont) ?_
  obtain ⟨_, _, ⟨T1, L2, k3, n4⟩, -, X5, ⟨Lc6, hQ7, l8, y9, z10⟩, st11⟩ := X0.specialBack hx (y := (⟨"java/lang/Throwable", "<init>", "(Ljava/lang/String;)V"⟩ : MethodName)) rfl hown (mvT hZ (hw _ (List.mem_of_getElem? (i := 17) rfl))) (mvT hZ (hw _ (List.mem_of_getElem? (i := 18) rfl))) (mvT hZ (hw _ (List.mem_of_getElem? (i := 22) rfl))) (by decide) (backOfKL (W := 0) (rmThrN l Z a0 hw [] a rS rL h0 n0 Z0 hl O SX SY E U ag F0 F1 F2 F3 F4 F5) hZ (hw _ (List.mem_of_getElem? (i := 22) rfl)) (hw _ (List.mem_of_getElem? (i := 21) rfl)) (by decide) (by decide) hK.1 hK.2) (g := (mkF m 2 #[rv a, .val .null] [.null, (.ref a)])) rfl (by rw [hml]; rfl) (Steps.refl _) (a := a) (argsL := [.null]) (rest := []) (lenOf (by decide +kernel : parseMethodDescriptor "(Ljava/lang/String;)V" = some ⟨[(.object "java/lang/String")], none⟩) rfl) rfl (by show 2 * 0 + _ ≤ _; exact Nat.le_of_eq rfl) (hb hby d3_2) (fun _ _ => ⟨rfl, e0, (by decide : 0 + 1 ≤ _), (by decide : 0 + 2752 ≤ _)⟩)
  dsimp only [Pt.U, Pt.locs, Pt.cells, Pt.slots] at X5 l8 y9 z10 st11 hQ7
  subst l8 y9 z10
  obtain ⟨rfl, N12, K_, E_, U_, g0_, g1_, g2_⟩ := hQ7
  have N14 := Fr.app N0 N12
  have Z15 := Nat.le_trans Z0 K_.1
  have O16 := O.keep K_ (allS ag all0)
  have K17 := (Keep.refl h0 [a]).trans K_ (allS (Or.inl (List.mem_of_getElem? (i := 0) rfl)) all0)
  refine own_tr (S' := (T1.setTop (mkF m 5 #[rv a, .val .null] []))) st11 ?_
  exact own_retV X5 hx hlk Bd.returns (hb hby d3_5) ⟨rfl, N14, K17, E_, U_, g0_, g1_, g2_⟩ (by decide) (by decide)
theorem ef_rmExcR (m : MethodId) (x0 : Addr) (x1 : Addr) : entryFrame m #[(.ref x0), (.ref x1)] 2 = mkF m 0 #[.val (.ref x0), .val (.ref x1)] [] := by first | (simp [entryFrame, mkF, argsToLocals, Value.category, maxLocals]; done) | rfl
def Q_rmExcR (Z : State) (a rS rL mg : Addr) (h0 : Heap) (n0 : Nat) (v : Option Value) (h : Heap) (L : List Loc) : Prop := v = none ∧ Fr n0 L ∧ Keep h0 h [a] ∧ Exa Z h a "com/example/portunus/portunus/CommandFailure" ∧ Unt h a ∧ Fld Z h a "com/example/portunus/portunus/CommandFailure" "exitCode" "Lcom/example/portunus/portunus/ExitCode;" .null ∧ Fld Z h a "java/lang/Throwable" "detailMessage" "Ljava/lang/String;" (.ref mg) ∧ Fld Z h a "java/lang/Throwable" "cause" "Ljava/lang/Throwable;" (.ref a)
set_option maxRecDepth 65536 in
set_option maxHeartbeats 40000000 in
theorem rmExcR (l : Launch) (Z : State) (a0 : Array Value) (hw : ∀ d ∈ tables_1, d.before a0 Z = true) (ws : List Jvm.Cond) (a rS rL mg : Addr) (h0 : Heap) (n0 : Nat) (Z0 : n0 ≤ h0.size) (hl : l.stackTraces = true) (O : Old Z n0 h0) (SX : Sta Z Z.heap "java/lang/Throwable" "UNASSIGNED_STACK" "[Ljava/lang/StackTraceElement;" (.ref rS)) (SY : Sta Z Z.heap "java/lang/Throwable" "SUPPRESSED_SENTINEL" "Ljava/util/List;" (.ref rL)) (E : Exa Z h0 a "com/example/portunus/portunus/CommandFailure") (U : Unt h0 a) (ag : n0 ≤ a) (F0 : Fld Z h0 a "java/lang/Throwable" "cause" "Ljava/lang/Throwable;" .null) (F1 : Fld Z h0 a "java/lang/Throwable" "stackTrace" "[Ljava/lang/StackTraceElement;" .null) (F2 : Fld Z h0 a "java/lang/Throwable" "suppressedExceptions" "Ljava/util/List;" .null) (F3 : Fld Z h0 a "java/lang/Throwable" "backtrace" "Ljava/lang/Object;" .null) (F4 : Fld Z h0 a "java/lang/Throwable" "detailMessage" "Ljava/lang/String;" .null) (F5 : Fld Z h0 a "com/example/portunus/portunus/CommandFailure" "exitCode" "Lcom/example/portunus/portunus/ExitCode;" .null) :
    MetFree l (⟨"java/lang/Exception", "<init>", "(Ljava/lang/String;)V"⟩ : MethodName) (head1 (Jvm.Cond.code (⟨"java/lang/Exception", "<init>", "(Ljava/lang/String;)V"⟩ : MethodName) jdk_59_method_2_code 2 none :: ws) ({ frames := 4, cells := 1, slots := 2752, locals := 60 } : Room)) (fun as_ U_ => as_ = #[(.ref a), (.ref mg)] ∧ Z.Warmed39 U_.vm ∧ U_.heap = h0) (fun _ _ bl s _ => s.vm.MethodsKnown ∧ s.vm.FramesKnown bl) (fun _ U_ o_ U2_ => ∃ v_ L_, o_ = .returned v_ ∧ (Q_rmExcR Z a rS rL mg h0 n0) v_ U2_.heap L_ ∧ FrameEnd U_ o_ U2_ L_ ({ frames := 4, cells := 1, slots := 2752, locals := 60 } : Room).cells ({ frames := 4, cells := 1, slots := 2752, locals := 60 } : Room).slots) := by
  refine MetFree.of_bodySF (plainFor_of_name (by first | (simp [plainName, overriddenIn]; done) | decide +kernel : plainName "java/lang/Exception" = true)) hisR ?_
  intro p e s m args below meth c s₁ Bd hml0 hP hK
  obtain ⟨rfl, hZ, hh⟩ := hP
  have hx := Bd.exec
  have hby := Bd.bytes
  have hlk := Bd.notSynchronized
  have hml : c.maxLocals = 2 := hml0
  have hown : s.vm.findClass "java/lang/Exception" = some m.cls := findClass_of_methodNamed Bd.named
  have hnm := (name_of_methodNamed Bd.named Bd.method).1
  have X0 : Stand p l e ({ frames := 4, cells := 1, slots := 2752, locals := 60 } : Room) s m #[(.ref a), (.ref mg)] below meth c s₁ [] 0 0 := Stand.of_body Bd
  have e0 : s₁.heap = h0 := by rw [← hh, Bd.state]; rfl
  have N0 := Fr.nil n0
  show own_Go p e below (own_R s below (Q_rmExcR Z a rS rL mg h0 n0) ({ frames := 4, cells := 1, slots := 2752, locals := 60 } : Room).cells ({ frames := 4, cells := 1, slots := 2752, locals := 60 } : Room).slots) (s₁.setTop (entryFrame m #[(.ref a), (.ref mg)] 2))
  refine own_bk (S' := (s₁.setTop (mkF m 0 #[rv a, rv mg] []))) (fun t_ kont => castTop (ef_rmExcR m (a) (mg)) kont) ?_
  refine own_bk (S' := (s₁.setTop (mkF m 1 #[rv a, rv mg] [(.ref a)]))) (fun t_ kont => XS.aloadN X0.here hx rfl (hb hby d3_0) rfl rfl kont) ?_
  refine own_bk (S' := (s₁.setTop (mkF m 2 #[rv a, rv mg] [(.ref mg), (.ref a)]))) (fun t_ kont => XS.aloadN X0.here hx rfl (hb hby d3_1) rfl rfl kont) ?_
  obtain ⟨_, _, ⟨T1, L2, k3, n4⟩, -, X5, ⟨Lc6, hQ7, l8, y9, z10⟩, st11⟩ := X0.specialBack hx (y := (⟨"java/lang/Throwable", "<init>", "(Ljava/lang/String;)V"⟩ : MethodName)) rfl hown (mvT hZ (hw _ (List.mem_of_getElem? (i := 17) rfl))) (mvT hZ (hw _ (List.mem_of_getElem? (i := 18) rfl))) (mvT hZ (hw _ (List.mem_of_getElem? (i := 22) rfl))) (by decide) (backOfKL (W := 0) (rmThrR l Z a0 hw [] a rS rL mg h0 n0 Z0 hl O SX SY E U ag F0 F1 F2 F3 F4 F5) hZ (hw _ (List.mem_of_getElem? (i := 22) rfl)) (hw _ (List.mem_of_getElem? (i := 21) rfl)) (by decide) (by decide) hK.1 hK.2) (g := (mkF m 2 #[rv a, rv mg] [(.ref mg), (.ref a)])) rfl (by rw [hml]; rfl) (Steps.refl _) (a := a) (argsL := [(.ref mg)]) (rest := []) (lenOf (by decide +kernel : parseMethodDescriptor "(Ljava/lang/String;)V" = some ⟨[(.object "java/lang/String")], none⟩) rfl) rfl (by show 2 * 0 + _ ≤ _; exact Nat.le_of_eq rfl) (hb hby d3_2) (fun _ _ => ⟨rfl, e0, (by decide : 0 + 1 ≤ _), (by decide : 0 + 2752 ≤ _)⟩)
  dsimp only [Pt.U, Pt.locs, Pt.cells, Pt.slots] at X5 l8 y9 z10 st11 hQ7
  subst l8 y9 z10
  obtain ⟨rfl, N12, K_, E_, U_, g0_, g1_, g2_⟩ := hQ7
  have N14 := Fr.app N0 N12
  have Z15 := Nat.le_trans Z0 K_.1
  have O16 := O.keep K_ (allS ag all0)
  have K17 := (Keep.refl h0 [a]).trans K_ (allS (Or.inl (List.mem_of_getElem? (i := 0) rfl)) all0)
  refine own_tr (S' := (T1.setTop (mkF m 5 #[rv a, rv mg] []))) st11 ?_
  exact own_retV X5 hx hlk Bd.returns (hb hby d3_5) ⟨rfl, N14, K17, E_, U_, g0_, g1_, g2_⟩ (by decide) (by decide)
theorem d2_0 : decode prog_3_method_1_code 0 = .ok (.aload_n 0, 1) := by decide +kernel
theorem d2_1 : decode prog_3_method_1_code 1 = .ok (.aload_n 2, 1) := by decide +kernel
theorem d2_2 : decode prog_3_method_1_code 2 = .ok (.invokespecial 1, 3) := by decide +kernel
theorem d2_5 : decode prog_3_method_1_code 5 = .ok (.aload_n 0, 1) := by decide +kernel
theorem d2_6 : decode prog_3_method_1_code 6 = .ok (.aload_n 1, 1) := by decide +kernel
theorem d2_7 : decode prog_3_method_1_code 7 = .ok (.putfield 7, 3) := by decide +kernel
theorem d2_10 : decode prog_3_method_1_code 10 = .ok (.return_, 1) := by decide +kernel
theorem ef_rmInitN (m : MethodId) (x0 : Addr) (x1 : Addr) : entryFrame m #[(.ref x0), (.ref x1), .null] 3 = mkF m 0 #[.val (.ref x0), .val (.ref x1), .val .null] [] := by first | (simp [entryFrame, mkF, argsToLocals, Value.category, maxLocals]; done) | rfl
def Q_rmInitN (Z : State) (a rU rS rL : Addr) (h0 : Heap) (n0 : Nat) (v : Option Value) (h : Heap) (L : List Loc) : Prop := v = none ∧ Fr n0 L ∧ Keep h0 h [a] ∧ Exa Z h a "com/example/portunus/portunus/CommandFailure" ∧ Unt h a ∧ Fld Z h a "com/example/portunus/portunus/CommandFailure" "exitCode" "Lcom/example/portunus/portunus/ExitCode;" (.ref rU) ∧ Fld Z h a "java/lang/Throwable" "detailMessage" "Ljava/lang/String;" .null ∧ Fld Z h a "java/lang/Throwable" "cause" "Ljava/lang/Throwable;" (.ref a)
set_option maxRecDepth 65536 in
set_option maxHeartbeats 40000000 in
theorem rmInitN (l : Launch) (Z : State) (a0 : Array Value) (hw : ∀ d ∈ tables_1, d.before a0 Z = true) (ws : List Jvm.Cond) (a rU rS rL : Addr) (h0 : Heap) (n0 : Nat) (Z0 : n0 ≤ h0.size) (hl : l.stackTraces = true) (O : Old Z n0 h0) (SX : Sta Z Z.heap "java/lang/Throwable" "UNASSIGNED_STACK" "[Ljava/lang/StackTraceElement;" (.ref rS)) (SY : Sta Z Z.heap "java/lang/Throwable" "SUPPRESSED_SENTINEL" "Ljava/util/List;" (.ref rL)) (E : Exa Z h0 a "com/example/portunus/portunus/CommandFailure") (U : Unt h0 a) (ag : n0 ≤ a) (F0 : Fld Z h0 a "java/lang/Throwable" "cause" "Ljava/lang/Throwable;" .null) (F1 : Fld Z h0 a "java/lang/Throwable" "stackTrace" "[Ljava/lang/StackTraceElement;" .null) (F2 : Fld Z h0 a "java/lang/Throwable" "suppressedExceptions" "Ljava/util/List;" .null) (F3 : Fld Z h0 a "java/lang/Throwable" "backtrace" "Ljava/lang/Object;" .null) (F4 : Fld Z h0 a "java/lang/Throwable" "detailMessage" "Ljava/lang/String;" .null) (F5 : Fld Z h0 a "com/example/portunus/portunus/CommandFailure" "exitCode" "Lcom/example/portunus/portunus/ExitCode;" .null) :
    MetFree l (⟨"com/example/portunus/portunus/CommandFailure", "<init>", "(Lcom/example/portunus/portunus/ExitCode;Ljava/lang/String;)V"⟩ : MethodName) (head1 (Jvm.Cond.code (⟨"com/example/portunus/portunus/CommandFailure", "<init>", "(Lcom/example/portunus/portunus/ExitCode;Ljava/lang/String;)V"⟩ : MethodName) prog_3_method_1_code 3 none :: ws) ({ frames := 5, cells := 1, slots := 2752, locals := 76 } : Room)) (fun as_ U_ => as_ = #[(.ref a), (.ref rU), .null] ∧ Z.Warmed39 U_.vm ∧ U_.heap = h0) (fun _ _ bl s _ => s.vm.MethodsKnown ∧ s.vm.FramesKnown bl) (fun _ U_ o_ U2_ => ∃ v_ L_, o_ = .returned v_ ∧ (Q_rmInitN Z a rU rS rL h0 n0) v_ U2_.heap L_ ∧ FrameEnd U_ o_ U2_ L_ ({ frames := 5, cells := 1, slots := 2752, locals := 76 } : Room).cells ({ frames := 5, cells := 1, slots := 2752, locals := 76 } : Room).slots) := by
  refine MetFree.of_bodySF (plainFor_of_name (by first | (simp [plainName, overriddenIn]; done) | decide +kernel : plainName "com/example/portunus/portunus/CommandFailure" = true)) hisR ?_
  intro p e s m args below meth c s₁ Bd hml0 hP hK
  obtain ⟨rfl, hZ, hh⟩ := hP
  have hx := Bd.exec
  have hby := Bd.bytes
  have hlk := Bd.notSynchronized
  have hml : c.maxLocals = 3 := hml0
  have hown : s.vm.findClass "com/example/portunus/portunus/CommandFailure" = some m.cls := findClass_of_methodNamed Bd.named
  have hnm := (name_of_methodNamed Bd.named Bd.method).1
  have X0 : Stand p l e ({ frames := 5, cells := 1, slots := 2752, locals := 76 } : Room) s m #[(.ref a), (.ref rU), .null] below meth c s₁ [] 0 0 := Stand.of_body Bd
  have e0 : s₁.heap = h0 := by rw [← hh, Bd.state]; rfl
  have N0 := Fr.nil n0
  show own_Go p e below (own_R s below (Q_rmInitN Z a rU rS rL h0 n0) ({ frames := 5, cells := 1, slots := 2752, locals := 76 } : Room).cells ({ frames := 5, cells := 1, slots := 2752, locals := 76 } : Room).slots) (s₁.setTop (entryFrame m #[(.ref a), (.ref rU), .null] 3))
  refine own_bk (S' := (s₁.setTop (mkF m 0 #[rv a, rv rU, .val .null] []))) (fun t_ kont => castTop (ef_rmInitN m (a) (rU)) kont) ?_
  refine own_bk (S' := (s₁.setTop (mkF m 1 #[rv a, rv rU, .val .null] [(.ref a)]))) (fun t_ kont => XS.aloadN X0.here hx rfl (hb hby d2_0) rfl rfl kont) ?_
  refine own_bk (S' := (s₁.setTop (mkF m 2 #[rv a, rv rU, .val .null] [.null, (.ref a)]))) (fun t_ kont => XS.aloadN X0.here hx rfl (hb hby d2_1) rfl rfl kont) ?_
  obtain ⟨_, _, ⟨T1, L2, k3, n4⟩, -, X5, ⟨Lc6, hQ7, l8, y9, z10⟩, st11⟩ := X0.specialBack hx (y := (⟨"java/lang/Exception", "<init>", "(Ljava/lang/String;)V"⟩ : MethodName)) rfl hown (mvT hZ (hw _ (List.mem_of_getElem? (i := 12) rfl))) (mvT hZ (hw _ (List.mem_of_getElem? (i := 13) rfl))) (mvT hZ (hw _ (List.mem_of_getElem? (i := 16) rfl))) (by decide) (backOfKL (W := 0) (rmExcN l Z a0 hw [] a rS rL h0 n0 Z0 hl O SX SY E U ag F0 F1 F2 F3 F4 F5) hZ (hw _ (List.mem_of_getElem? (i := 16) rfl)) (hw _ (List.mem_of_getElem? (i := 15) rfl)) (by decide) (by decide) hK.1 hK.2) (g := (mkF m 2 #[rv a, rv rU, .val .null] [.null, (.ref a)])) rfl (by rw [hml]; rfl) (Steps.refl _) (a := a) (argsL := [.null]) (rest := []) (lenOf (by decide +kernel : parseMethodDescriptor "(Ljava/lang/String;)V" = some ⟨[(.object "java/lang/String")], none⟩) rfl) rfl (by show 2 * 0 + _ ≤ _; exact Nat.le_of_eq rfl) (hb hby d2_2) (fun _ _ => ⟨rfl, e0, (by decide : 0 + 1 ≤ _), (by decide : 0 + 2752 ≤ _)⟩)
  dsimp only [Pt.U, Pt.locs, Pt.cells, Pt.slots] at X5 l8 y9 z10 st11 hQ7
  subst l8 y9 z10
  obtain ⟨rfl, N12, K_, E_, U_, g0_, g1_, g2_⟩ := hQ7
  have N14 := Fr.app N0 N12
  have Z15 := Nat.le_trans Z0 K_.1
  have O16 := O.keep K_ (allS ag all0)
  have K17 := (Keep.refl h0 [a]).trans K_ (allS (Or.inl (List.mem_of_getElem? (i := 0) rfl)) all0)
  refine own_tr (S' := (T1.setTop (mkF m 5 #[rv a, rv rU, .val .null] []))) st11 ?_
  refine own_bk (S' := (T1.setTop (mkF m 6 #[rv a, rv rU, .val .null] [(.ref a)]))) (fun t_ kont => XS.aloadN X5.here hx rfl (hb hby d2_5) rfl rfl kont) ?_
  refine own_bk (S' := (T1.setTop (mkF m 7 #[rv a, rv rU, .val .null] [(.ref rU), (.ref a)]))) (fun t_ kont => XS.aloadN X5.here hx rfl (hb hby d2_6) rfl rfl kont) ?_
  obtain ⟨T18, h19, X20, e21, W22, st23⟩ := putF X5 hx hZ hown (host := "") (Or.inl (hw _ (List.mem_of_getElem? (i := 62) rfl))) Via.refl rfl g0_ E_ (Or.inr ⟨(hw _ (List.mem_of_getElem? (i := 63) rfl)), rfl, hnm⟩) (hw _ (List.mem_of_getElem? (i := 5) rfl)) (ty := (.object "com/example/portunus/portunus/ExitCode")) (by decide +kernel) rfl rfl (g := (mkF m 7 #[rv a, rv rU, .val .null] [(.ref rU), (.ref a)])) rfl rfl (hb hby d2_7)
  have N24 := Fr.snoc X20 N14 ag
  have u25 := Unt.wr W22 U_
  have E26 := (E_.wr W22)
  have F27 := (g0_.same W22)
  have F28 := (g1_.other W22 (Or.inr (slot_ne (Or.inl (hw _ (List.mem_of_getElem? (i := 57) rfl))) (Or.inr (hw _ (List.mem_of_getElem? (i := 63) rfl))) (by decide) (show parseFieldDescriptor "Ljava/lang/String;" = some (.object "java/lang/String") from by decide +kernel) (show parseFieldDescriptor "Lcom/example/portunus/portunus/ExitCode;" = some (.object "com/example/portunus/portunus/ExitCode") from by decide +kernel))))
  have F29 := (g2_.other W22 (Or.inr (slot_ne (Or.inl (hw _ (List.mem_of_getElem? (i := 27) rfl))) (Or.inr (hw _ (List.mem_of_getElem? (i := 63) rfl))) (by decide) (show parseFieldDescriptor "Ljava/lang/Throwable;" = some (.object "java/lang/Throwable") from by decide +kernel) (show parseFieldDescriptor "Lcom/example/portunus/portunus/ExitCode;" = some (.object "com/example/portunus/portunus/ExitCode") from by decide +kernel))))
  have Z30 := Nat.le_trans Z15 (Keep.of_wr W22).1
  have O31 := O16.wr W22 ag
  have K32 := K17.wr W22 (Or.inl (List.mem_of_getElem? (i := 0) rfl))
  refine own_bk (S' := (T18.setTop (mkF m 10 #[rv a, rv rU, .val .null] []))) st23 ?_
  exact own_retV X20 hx hlk Bd.returns (hb hby d2_10) (by rw [e21]; exact ⟨rfl, N24, K32, E26, u25, F27, F28, F29⟩) (by decide) (by decide)
theorem ef_rmInitR (m : MethodId) (x0 : Addr) (x1 : Addr) (x2 : Addr) : entryFrame m #[(.ref x0), (.ref x1), (.ref x2)] 3 = mkF m 0 #[.val (.ref x0), .val (.ref x1), .val (.ref x2)] [] := by first | (simp [entryFrame, mkF, argsToLocals, Value.category, maxLocals]; done) | rfl
def Q_rmInitR (Z : State) (a rU rS rL mg : Addr) (h0 : Heap) (n0 : Nat) (v : Option Value) (h : Heap) (L : List Loc) : Prop := v = none ∧ Fr n0 L ∧ Keep h0 h [a] ∧ Exa Z h a "com/example/portunus/portunus/CommandFailure" ∧ Unt h a ∧ Fld Z h a "com/example/portunus/portunus/CommandFailure" "exitCode" "Lcom/example/portunus/portunus/ExitCode;" (.ref rU) ∧ Fld Z h a "java/lang/Throwable" "detailMessage" "Ljava/lang/String;" (.ref mg) ∧ Fld Z h a "java/lang/Throwable" "cause" "Ljava/lang/Throwable;" (.ref a)
set_option maxRecDepth 65536 in
set_option maxHeartbeats 40000000 in
theorem rmInitR (l : Launch) (Z : State) (a0 : Array Value) (hw : ∀ d ∈ tables_1, d.before a0 Z = true) (ws : List Jvm.Cond) (a rU rS rL mg : Addr) (h0 : Heap) (n0 : Nat) (Z0 : n0 ≤ h0.size) (hl : l.stackTraces = true) (O : Old Z n0 h0) (SX : Sta Z Z.heap "java/lang/Throwable" "UNASSIGNED_STACK" "[Ljava/lang/StackTraceElement;" (.ref rS)) (SY : Sta Z Z.heap "java/lang/Throwable" "SUPPRESSED_SENTINEL" "Ljava/util/List;" (.ref rL)) (E : Exa Z h0 a "com/example/portunus/portunus/CommandFailure") (U : Unt h0 a) (ag : n0 ≤ a) (F0 : Fld Z h0 a "java/lang/Throwable" "cause" "Ljava/lang/Throwable;" .null) (F1 : Fld Z h0 a "java/lang/Throwable" "stackTrace" "[Ljava/lang/StackTraceElement;" .null) (F2 : Fld Z h0 a "java/lang/Throwable" "suppressedExceptions" "Ljava/util/List;" .null) (F3 : Fld Z h0 a "java/lang/Throwable" "backtrace" "Ljava/lang/Object;" .null) (F4 : Fld Z h0 a "java/lang/Throwable" "detailMessage" "Ljava/lang/String;" .null) (F5 : Fld Z h0 a "com/example/portunus/portunus/CommandFailure" "exitCode" "Lcom/example/portunus/portunus/ExitCode;" .null) :
    MetFree l (⟨"com/example/portunus/portunus/CommandFailure", "<init>", "(Lcom/example/portunus/portunus/ExitCode;Ljava/lang/String;)V"⟩ : MethodName) (head1 (Jvm.Cond.code (⟨"com/example/portunus/portunus/CommandFailure", "<init>", "(Lcom/example/portunus/portunus/ExitCode;Ljava/lang/String;)V"⟩ : MethodName) prog_3_method_1_code 3 none :: ws) ({ frames := 5, cells := 1, slots := 2752, locals := 76 } : Room)) (fun as_ U_ => as_ = #[(.ref a), (.ref rU), (.ref mg)] ∧ Z.Warmed39 U_.vm ∧ U_.heap = h0) (fun _ _ bl s _ => s.vm.MethodsKnown ∧ s.vm.FramesKnown bl) (fun _ U_ o_ U2_ => ∃ v_ L_, o_ = .returned v_ ∧ (Q_rmInitR Z a rU rS rL mg h0 n0) v_ U2_.heap L_ ∧ FrameEnd U_ o_ U2_ L_ ({ frames := 5, cells := 1, slots := 2752, locals := 76 } : Room).cells ({ frames := 5, cells := 1, slots := 2752, locals := 76 } : Room).slots) := by
  refine MetFree.of_bodySF (plainFor_of_name (by first | (simp [plainName, overriddenIn]; done) | decide +kernel : plainName "com/example/portunus/portunus/CommandFailure" = true)) hisR ?_
  intro p e s m args below meth c s₁ Bd hml0 hP hK
  obtain ⟨rfl, hZ, hh⟩ := hP
  have hx := Bd.exec
  have hby := Bd.bytes
  have hlk := Bd.notSynchronized
  have hml : c.maxLocals = 3 := hml0
  have hown : s.vm.findClass "com/example/portunus/portunus/CommandFailure" = some m.cls := findClass_of_methodNamed Bd.named
  have hnm := (name_of_methodNamed Bd.named Bd.method).1
  have X0 : Stand p l e ({ frames := 5, cells := 1, slots := 2752, locals := 76 } : Room) s m #[(.ref a), (.ref rU), (.ref mg)] below meth c s₁ [] 0 0 := Stand.of_body Bd
  have e0 : s₁.heap = h0 := by rw [← hh, Bd.state]; rfl
  have N0 := Fr.nil n0
  show own_Go p e below (own_R s below (Q_rmInitR Z a rU rS rL mg h0 n0) ({ frames := 5, cells := 1, slots := 2752, locals := 76 } : Room).cells ({ frames := 5, cells := 1, slots := 2752, locals := 76 } : Room).slots) (s₁.setTop (entryFrame m #[(.ref a), (.ref rU), (.ref mg)] 3))
  refine own_bk (S' := (s₁.setTop (mkF m 0 #[rv a, rv rU, rv mg] []))) (fun t_ kont => castTop (ef_rmInitR m (a) (rU) (mg)) kont) ?_
  refine own_bk (S' := (s₁.setTop (mkF m 1 #[rv a, rv rU, rv mg] [(.ref a)]))) (fun t_ kont => XS.aloadN X0.here hx rfl (hb hby d2_0) rfl rfl kont) ?_
  refine own_bk (S' := (s₁.setTop (mkF m 2 #[rv a, rv rU, rv mg] [(.ref mg), (.ref a)]))) (fun t_ kont => XS.aloadN X0.here hx rfl (hb hby d2_1) rfl rfl kont) ?_
  obtain ⟨_, _, ⟨T1, L2, k3, n4⟩, -, X5, ⟨Lc6, hQ7, l8, y9, z10⟩, st11⟩ := X0.specialBack hx (y := (⟨"java/lang/Exception", "<init>", "(Ljava/lang/String;)V"⟩ : MethodName)) rfl hown (mvT hZ (hw _ (List.mem_of_getElem? (i := 12) rfl))) (mvT hZ (hw _ (List.mem_of_getElem? (i := 13) rfl))) (mvT hZ (hw _ (List.mem_of_getElem? (i := 16) rfl))) (by decide) (backOfKL (W := 0) (rmExcR l Z a0 hw [] a rS rL mg h0 n0 Z0 hl O SX SY E U ag F0 F1 F2 F3 F4 F5) hZ (hw _ (List.mem_of_getElem? (i := 16) rfl)) (hw _ (List.mem_of_getElem? (i := 15) rfl)) (by decide) (by decide) hK.1 hK.2) (g := (mkF m 2 #[rv a, rv rU, rv mg] [(.ref mg), (.ref a)])) rfl (by rw [hml]; rfl) (Steps.refl _) (a := a) (argsL := [(.ref mg)]) (rest := []) (lenOf (by decide +kernel : parseMethodDescriptor "(Ljava/lang/String;)V" = some ⟨[(.object "java/lang/String")], none⟩) rfl) rfl (by show 2 * 0 + _ ≤ _; exact Nat.le_of_eq rfl) (hb hby d2_2) (fun _ _ => ⟨rfl, e0, (by decide : 0 + 1 ≤ _), (by decide : 0 + 2752 ≤ _)⟩)
  dsimp only [Pt.U, Pt.locs, Pt.cells, Pt.slots] at X5 l8 y9 z10 st11 hQ7
  subst l8 y9 z10
  obtain ⟨rfl, N12, K_, E_, U_, g0_, g1_, g2_⟩ := hQ7
  have N14 := Fr.app N0 N12
  have Z15 := Nat.le_trans Z0 K_.1
  have O16 := O.keep K_ (allS ag all0)
  have K17 := (Keep.refl h0 [a]).trans K_ (allS (Or.inl (List.mem_of_getElem? (i := 0) rfl)) all0)
  refine own_tr (S' := (T1.setTop (mkF m 5 #[rv a, rv rU, rv mg] []))) st11 ?_
  refine own_bk (S' := (T1.setTop (mkF m 6 #[rv a, rv rU, rv mg] [(.ref a)]))) (fun t_ kont => XS.aloadN X5.here hx rfl (hb hby d2_5) rfl rfl kont) ?_
  refine own_bk (S' := (T1.setTop (mkF m 7 #[rv a, rv rU, rv mg] [(.ref rU), (.ref a)]))) (fun t_ kont => XS.aloadN X5.here hx rfl (hb hby d2_6) rfl rfl kont) ?_
  obtain ⟨T18, h19, X20, e21, W22, st23⟩ := putF X5 hx hZ hown (host := "") (Or.inl (hw _ (List.mem_of_getElem? (i := 62) rfl))) Via.refl rfl g0_ E_ (Or.inr ⟨(hw _ (List.mem_of_getElem? (i := 63) rfl)), rfl, hnm⟩) (hw _ (List.mem_of_getElem? (i := 5) rfl)) (ty := (.object "com/example/portunus/portunus/ExitCode")) (by decide +kernel) rfl rfl (g := (mkF m 7 #[rv a, rv rU, rv mg] [(.ref rU), (.ref a)])) rfl rfl (hb hby d2_7)
  have N24 := Fr.snoc X20 N14 ag
  have u25 := Unt.wr W22 U_
  have E26 := (E_.wr W22)
  have F27 := (g0_.same W22)
  have F28 := (g1_.other W22 (Or.inr (slot_ne (Or.inl (hw _ (List.mem_of_getElem? (i := 57) rfl))) (Or.inr (hw _ (List.mem_of_getElem? (i := 63) rfl))) (by decide) (show parseFieldDescriptor "Ljava/lang/String;" = some (.object "java/lang/String") from by decide +kernel) (show parseFieldDescriptor "Lcom/example/portunus/portunus/ExitCode;" = some (.object "com/example/portunus/portunus/ExitCode") from by decide +kernel))))
  have F29 := (g2_.other W22 (Or.inr (slot_ne (Or.inl (hw _ (List.mem_of_getElem? (i := 27) rfl))) (Or.inr (hw _ (List.mem_of_getElem? (i := 63) rfl))) (by decide) (show parseFieldDescriptor "Ljava/lang/Throwable;" = some (.object "java/lang/Throwable") from by decide +kernel) (show parseFieldDescriptor "Lcom/example/portunus/portunus/ExitCode;" = some (.object "com/example/portunus/portunus/ExitCode") from by decide +kernel))))
  have Z30 := Nat.le_trans Z15 (Keep.of_wr W22).1
  have O31 := O16.wr W22 ag
  have K32 := K17.wr W22 (Or.inl (List.mem_of_getElem? (i := 0) rfl))
  refine own_bk (S' := (T18.setTop (mkF m 10 #[rv a, rv rU, rv mg] []))) st23 ?_
  exact own_retV X20 hx hlk Bd.returns (hb hby d2_10) (by rw [e21]; exact ⟨rfl, N24, K32, E26, u25, F27, F28, F29⟩) (by decide) (by decide)
theorem d1_0 : decode prog_3_method_2_code 0 = .ok (.new 8, 3) := by decide +kernel
theorem d1_3 : decode prog_3_method_2_code 3 = .ok (.dup, 1) := by decide +kernel
theorem d1_4 : decode prog_3_method_2_code 4 = .ok (.getstatic 13, 3) := by decide +kernel
theorem d1_7 : decode prog_3_method_2_code 7 = .ok (.aload_n 0, 1) := by decide +kernel
theorem d1_8 : decode prog_3_method_2_code 8 = .ok (.invokespecial 18, 3) := by decide +kernel
theorem d1_11 : decode prog_3_method_2_code 11 = .ok (.areturn, 1) := by decide +kernel
theorem ef_rmUseN (m : MethodId)  : entryFrame m #[.null] 1 = mkF m 0 #[.val .null] [] := by first | (simp [entryFrame, mkF, argsToLocals, Value.category, maxLocals]; done) | rfl
def Q_rmUseN (Z : State) (rU rS rL : Addr) (h0 : Heap) (n0 : Nat) (v : Option Value) (h : Heap) (L : List Loc) : Prop := Fr n0 L ∧ Old Z n0 h ∧ Keep h0 h [] ∧ ∃ f, v = some (.ref f) ∧ Exa Z h f "com/example/portunus/portunus/CommandFailure" ∧ Unt h f ∧ Fld Z h f "com/example/portunus/portunus/CommandFailure" "exitCode" "Lcom/example/portunus/portunus/ExitCode;" (.ref rU) ∧ Fld Z h f "java/lang/Throwable" "detailMessage" "Ljava/lang/String;" .null ∧ Fld Z h f "java/lang/Throwable" "cause" "Ljava/lang/Throwable;" (.ref f)
set_option maxRecDepth 65536 in
set_option maxHeartbeats 40000000 in
theorem rmUseN (l : Launch) (Z : State) (a0 : Array Value) (hw : ∀ d ∈ tables_1, d.before a0 Z = true) (ws : List Jvm.Cond) (rU rS rL : Addr) (h0 : Heap) (n0 : Nat) (Z0 : n0 ≤ h0.size) (hl : l.stackTraces = true) (O : Old Z n0 h0) (SX : Sta Z Z.heap "java/lang/Throwable" "UNASSIGNED_STACK" "[Ljava/lang/StackTraceElement;" (.ref rS)) (SY : Sta Z Z.heap "java/lang/Throwable" "SUPPRESSED_SENTINEL" "Ljava/util/List;" (.ref rL)) (SR : Sta Z Z.heap "com/example/portunus/portunus/ExitCode" "USAGE" "Lcom/example/portunus/portunus/ExitCode;" (.ref rU)) :
    MetFree l (⟨"com/example/portunus/portunus/CommandFailure", "usage", "(Ljava/lang/String;)Lcom/example/portunus/portunus/CommandFailure;"⟩ : MethodName) (head1 (Jvm.Cond.code (⟨"com/example/portunus/portunus/CommandFailure", "usage", "(Ljava/lang/String;)Lcom/example/portunus/portunus/CommandFailure;"⟩ : MethodName) prog_3_method_2_code 1 (some (.object "com/example/portunus/portunus/CommandFailure")) :: ws) ({ frames := 6, cells := 2, slots := 2759, locals := 96 } : Room)) (fun as_ U_ => as_ = #[.null] ∧ Z.Warmed39 U_.vm ∧ U_.heap = h0) (fun _ _ bl s _ => s.vm.MethodsKnown ∧ s.vm.FramesKnown bl) (fun _ U_ o_ U2_ => ∃ v_ L_, o_ = .returned v_ ∧ (Q_rmUseN Z rU rS rL h0 n0) v_ U2_.heap L_ ∧ FrameEnd U_ o_ U2_ L_ ({ frames := 6, cells := 2, slots := 2759, locals := 96 } : Room).cells ({ frames := 6, cells := 2, slots := 2759, locals := 96 } : Room).slots) := by
  refine MetFree.of_bodySF (plainFor_of_name (by first | (simp [plainName, overriddenIn]; done) | decide +kernel : plainName "com/example/portunus/portunus/CommandFailure" = true)) hisR ?_
  intro p e s m args below meth c s₁ Bd hml0 hP hK
  obtain ⟨rfl, hZ, hh⟩ := hP
  have hx := Bd.exec
  have hby := Bd.bytes
  have hlk := Bd.notSynchronized
  have hml : c.maxLocals = 1 := hml0
  have hown : s.vm.findClass "com/example/portunus/portunus/CommandFailure" = some m.cls := findClass_of_methodNamed Bd.named
  have hnm := (name_of_methodNamed Bd.named Bd.method).1
  have X0 : Stand p l e ({ frames := 6, cells := 2, slots := 2759, locals := 96 } : Room) s m #[.null] below meth c s₁ [] 0 0 := Stand.of_body Bd
  have e0 : s₁.heap = h0 := by rw [← hh, Bd.state]; rfl
  have N0 := Fr.nil n0
  show own_Go p e below (own_R s below (Q_rmUseN Z rU rS rL h0 n0) ({ frames := 6, cells := 2, slots := 2759, locals := 96 } : Room).cells ({ frames := 6, cells := 2, slots := 2759, locals := 96 } : Room).slots) (s₁.setTop (entryFrame m #[.null] 1))
  refine own_bk (S' := (s₁.setTop (mkF m 0 #[.val .null] []))) (fun t_ kont => castTop (ef_rmUseN m ) kont) ?_
  obtain ⟨T1, h2, X3, e4, E5, A6, D7, u11, st8⟩ := newO X0 hx hZ hown (hw _ (List.mem_of_getElem? (i := 4) rfl)) (hw _ (List.mem_of_getElem? (i := 5) rfl)) (hw _ (List.mem_of_getElem? (i := 2) rfl)) e0 (g := (mkF m 0 #[.val .null] [])) rfl (hb hby d1_0) (by decide) (by decide)
  obtain ⟨a9, g10⟩ : ∃ z, z = h0.size := ⟨_, rfl⟩
  rw [← g10] at A6 D7 st8 u11
  have ag12 : n0 ≤ a9 := Nat.le_trans Z0 (Nat.le_of_eq g10.symm)
  have kg13 : h0.size ≤ a9 := Nat.le_trans (Keep.refl h0 []).1 (Nat.le_of_eq g10.symm)
  have Z14 := Nat.le_trans Z0 E5.1
  have O15 := O.ext E5
  have K16 := (Keep.refl h0 []).ext E5
  have F17 : Fld Z h2 a9 "java/lang/Throwable" "cause" "Ljava/lang/Throwable;" .null := (D7 (Or.inl (hw _ (List.mem_of_getElem? (i := 27) rfl))) (ty := (.object "java/lang/Throwable")) (by decide +kernel))
  have F18 : Fld Z h2 a9 "java/lang/Throwable" "stackTrace" "[Ljava/lang/StackTraceElement;" .null := (D7 (Or.inl (hw _ (List.mem_of_getElem? (i := 30) rfl))) (ty := (.array (.object "java/lang/StackTraceElement"))) (by decide +kernel))
  have F19 : Fld Z h2 a9 "java/lang/Throwable" "suppressedExceptions" "Ljava/util/List;" .null := (D7 (Or.inl (hw _ (List.mem_of_getElem? (i := 33) rfl))) (ty := (.object "java/util/List")) (by decide +kernel))
  have F20 : Fld Z h2 a9 "java/lang/Throwable" "backtrace" "Ljava/lang/Object;" .null := (D7 (Or.inl (hw _ (List.mem_of_getElem? (i := 58) rfl))) (ty := (.object "java/lang/Object")) (by decide +kernel))
  have F21 : Fld Z h2 a9 "java/lang/Throwable" "detailMessage" "Ljava/lang/String;" .null := (D7 (Or.inl (hw _ (List.mem_of_getElem? (i := 57) rfl))) (ty := (.object "java/lang/String")) (by decide +kernel))
  have F22 : Fld Z h2 a9 "com/example/portunus/portunus/CommandFailure" "exitCode" "Lcom/example/portunus/portunus/ExitCode;" .null := (D7 (Or.inr (hw _ (List.mem_of_getElem? (i := 63) rfl))) (ty := (.object "com/example/portunus/portunus/ExitCode")) (by decide +kernel))
  refine own_bk (S' := (T1.setTop (mkF m 3 #[.val .null] [(.ref a9)]))) st8 ?_
  refine own_bk (S' := (T1.setTop (mkF m 4 #[.val .null] [(.ref a9), (.ref a9)]))) (fun t_ kont => XS.dup X3.here hx rfl (hb hby d1_3) rfl rfl kont) ?_
  obtain ⟨T23, X24, e25, st26⟩ := getS2 X3 hx hZ hown (host := "") (Or.inl (hw _ (List.mem_of_getElem? (i := 6) rfl))) Via.refl e4 (SR.ext O15.2) (g := (mkF m 4 #[.val .null] [(.ref a9), (.ref a9)])) rfl (hb hby d1_4)
  refine own_bk (S' := (T23.setTop (mkF m 7 #[.val .null] [(.ref rU), (.ref a9), (.ref a9)]))) st26 ?_
  refine own_bk (S' := (T23.setTop (mkF m 8 #[.val .null] [.null, (.ref rU), (.ref a9), (.ref a9)]))) (fun t_ kont => XS.aloadN X24.here hx rfl (hb hby d1_7) rfl rfl kont) ?_
  obtain ⟨_, _, ⟨T27, L28, k29, n30⟩, -, X31, ⟨Lc32, hQ33, l34, y35, z36⟩, st37⟩ := X24.specialBack hx (y := (⟨"com/example/portunus/portunus/CommandFailure", "<init>", "(Lcom/example/portunus/portunus/ExitCode;Ljava/lang/String;)V"⟩ : MethodName)) rfl hown (mvT hZ (hw _ (List.mem_of_getElem? (i := 9) rfl))) (mvT hZ (hw _ (List.mem_of_getElem? (i := 10) rfl))) (mvT hZ (hw _ (List.mem_of_getElem? (i := 11) rfl))) (by decide) (backOfKL (W := 1) (rmInitN l Z a0 hw [] a9 rU rS rL h2 n0 Z14 hl O15 SX SY A6 u11 ag12 F17 F18 F19 F20 F21 F22) hZ (hw _ (List.mem_of_getElem? (i := 11) rfl)) (hw _ (List.mem_of_getElem? (i := 2) rfl)) (by decide) (by decide) hK.1 hK.2) (g := (mkF m 8 #[.val .null] [.null, (.ref rU), (.ref a9), (.ref a9)])) rfl (by rw [hml]; rfl) (Steps.refl _) (a := a9) (argsL := [(.ref rU), .null]) (rest := [(.ref a9)]) (lenOf (by decide +kernel : parseMethodDescriptor "(Lcom/example/portunus/portunus/ExitCode;Ljava/lang/String;)V" = some ⟨[(.object "com/example/portunus/portunus/ExitCode"), (.object "java/lang/String")], none⟩) rfl) rfl (by show 2 * 0 + _ ≤ _; exact Nat.le_of_eq rfl) (hb hby d1_8) (fun _ _ => ⟨rfl, e25, (by decide : 1 + 1 ≤ _), (by decide : 7 + 2752 ≤ _)⟩)
  dsimp only [Pt.U, Pt.locs, Pt.cells, Pt.slots] at X31 l34 y35 z36 st37 hQ33
  subst l34 y35 z36
  obtain ⟨rfl, N38, K_, E_, U_, g0_, g1_, g2_⟩ := hQ33
  have N40 := Fr.app N0 N38
  have Z41 := Nat.le_trans Z14 K_.1
  have O42 := O15.keep K_ (allS ag12 all0)
  have K43 := K16.trans K_ (allS (Or.inr kg13) all0)
  refine own_tr (S' := (T27.setTop (mkF m 11 #[.val .null] [(.ref a9)]))) st37 ?_
  exact own_retA X31 hx hlk Bd.returns rfl rfl rfl (hb hby d1_11) ⟨N40, O42, K43, _, rfl, E_, U_, g0_, g1_, g2_⟩ (by decide) (by decide)
theorem ef_rmUseR (m : MethodId) (x0 : Addr) : entryFrame m #[(.ref x0)] 1 = mkF m 0 #[.val (.ref x0)] [] := by first | (simp [entryFrame, mkF, argsToLocals, Value.category, maxLocals]; done) | rfl
def Q_rmUseR (Z : State) (rU rS rL mg : Addr) (h0 : Heap) (n0 : Nat) (v : Option Value) (h : Heap) (L : List Loc) : Prop := Fr n0 L ∧ Old Z n0 h ∧ Keep h0 h [] ∧ ∃ f, v = some (.ref f) ∧ Exa Z h f "com/example/portunus/portunus/CommandFailure" ∧ Unt h f ∧ Fld Z h f "com/example/portunus/portunus/CommandFailure" "exitCode" "Lcom/example/portunus/portunus/ExitCode;" (.ref rU) ∧ Fld Z h f "java/lang/Throwable" "detailMessage" "Ljava/lang/String;" (.ref mg) ∧ Fld Z h f "java/lang/Throwable" "cause" "Ljava/lang/Throwable;" (.ref f)
set_option maxRecDepth 65536 in
set_option maxHeartbeats 40000000 in
theorem rmUseR (l : Launch) (Z : State) (a0 : Array Value) (hw : ∀ d ∈ tables_1, d.before a0 Z = true) (ws : List Jvm.Cond) (rU rS rL mg : Addr) (h0 : Heap) (n0 : Nat) (Z0 : n0 ≤ h0.size) (hl : l.stackTraces = true) (O : Old Z n0 h0) (SX : Sta Z Z.heap "java/lang/Throwable" "UNASSIGNED_STACK" "[Ljava/lang/StackTraceElement;" (.ref rS)) (SY : Sta Z Z.heap "java/lang/Throwable" "SUPPRESSED_SENTINEL" "Ljava/util/List;" (.ref rL)) (SR : Sta Z Z.heap "com/example/portunus/portunus/ExitCode" "USAGE" "Lcom/example/portunus/portunus/ExitCode;" (.ref rU)) :
    MetFree l (⟨"com/example/portunus/portunus/CommandFailure", "usage", "(Ljava/lang/String;)Lcom/example/portunus/portunus/CommandFailure;"⟩ : MethodName) (head1 (Jvm.Cond.code (⟨"com/example/portunus/portunus/CommandFailure", "usage", "(Ljava/lang/String;)Lcom/example/portunus/portunus/CommandFailure;"⟩ : MethodName) prog_3_method_2_code 1 (some (.object "com/example/portunus/portunus/CommandFailure")) :: ws) ({ frames := 6, cells := 2, slots := 2759, locals := 96 } : Room)) (fun as_ U_ => as_ = #[(.ref mg)] ∧ Z.Warmed39 U_.vm ∧ U_.heap = h0) (fun _ _ bl s _ => s.vm.MethodsKnown ∧ s.vm.FramesKnown bl) (fun _ U_ o_ U2_ => ∃ v_ L_, o_ = .returned v_ ∧ (Q_rmUseR Z rU rS rL mg h0 n0) v_ U2_.heap L_ ∧ FrameEnd U_ o_ U2_ L_ ({ frames := 6, cells := 2, slots := 2759, locals := 96 } : Room).cells ({ frames := 6, cells := 2, slots := 2759, locals := 96 } : Room).slots) := by
  refine MetFree.of_bodySF (plainFor_of_name (by first | (simp [plainName, overriddenIn]; done) | decide +kernel : plainName "com/example/portunus/portunus/CommandFailure" = true)) hisR ?_
  intro p e s m args below meth c s₁ Bd hml0 hP hK
  obtain ⟨rfl, hZ, hh⟩ := hP
  have hx := Bd.exec
  have hby := Bd.bytes
  have hlk := Bd.notSynchronized
  have hml : c.maxLocals = 1 := hml0
  have hown : s.vm.findClass "com/example/portunus/portunus/CommandFailure" = some m.cls := findClass_of_methodNamed Bd.named
  have hnm := (name_of_methodNamed Bd.named Bd.method).1
  have X0 : Stand p l e ({ frames := 6, cells := 2, slots := 2759, locals := 96 } : Room) s m #[(.ref mg)] below meth c s₁ [] 0 0 := Stand.of_body Bd
  have e0 : s₁.heap = h0 := by rw [← hh, Bd.state]; rfl
  have N0 := Fr.nil n0
  show own_Go p e below (own_R s below (Q_rmUseR Z rU rS rL mg h0 n0) ({ frames := 6, cells := 2, slots := 2759, locals := 96 } : Room).cells ({ frames := 6, cells := 2, slots := 2759, locals := 96 } : Room).slots) (s₁.setTop (entryFrame m #[(.ref mg)] 1))
  refine own_bk (S' := (s₁.setTop (mkF m 0 #[rv mg] []))) (fun t_ kont => castTop (ef_rmUseR m (mg)) kont) ?_
  obtain ⟨T1, h2, X3, e4, E5, A6, D7, u11, st8⟩ := newO X0 hx hZ hown (hw _ (List.mem_of_getElem? (i := 4) rfl)) (hw _ (List.mem_of_getElem? (i := 5) rfl)) (hw _ (List.mem_of_getElem? (i := 2) rfl)) e0 (g := (mkF m 0 #[rv mg] [])) rfl (hb hby d1_0) (by decide) (by decide)
  obtain ⟨a9, g10⟩ : ∃ z, z = h0.size := ⟨_, rfl⟩
  rw [← g10] at A6 D7 st8 u11
  have ag12 : n0 ≤ a9 := Nat.le_trans Z0 (Nat.le_of_eq g10.symm)
  have kg13 : h0.size ≤ a9 := Nat.le_trans (Keep.refl h0 []).1 (Nat.le_of_eq g10.symm)
  have Z14 := Nat.le_trans Z0 E5.1
  have O15 := O.ext E5
  have K16 := (Keep.refl h0 []).ext E5
  have F17 : Fld Z h2 a9 "java/lang/Throwable" "cause" "Ljava/lang/Throwable;" .null := (D7 (Or.inl (hw _ (List.mem_of_getElem? (i := 27) rfl))) (ty := (.object "java/lang/Throwable")) (by decide +kernel))
  have F18 : Fld Z h2 a9 "java/lang/Throwable" "stackTrace" "[Ljava/lang/StackTraceElement;" .null := (D7 (Or.inl (hw _ (List.mem_of_getElem? (i := 30) rfl))) (ty := (.array (.object "java/lang/StackTraceElement"))) (by decide +kernel))
  have F19 : Fld Z h2 a9 "java/lang/Throwable" "suppressedExceptions" "Ljava/util/List;" .null := (D7 (Or.inl (hw _ (List.mem_of_getElem? (i := 33) rfl))) (ty := (.object "java/util/List")) (by decide +kernel))
  have F20 : Fld Z h2 a9 "java/lang/Throwable" "backtrace" "Ljava/lang/Object;" .null := (D7 (Or.inl (hw _ (List.mem_of_getElem? (i := 58) rfl))) (ty := (.object "java/lang/Object")) (by decide +kernel))
  have F21 : Fld Z h2 a9 "java/lang/Throwable" "detailMessage" "Ljava/lang/String;" .null := (D7 (Or.inl (hw _ (List.mem_of_getElem? (i := 57) rfl))) (ty := (.object "java/lang/String")) (by decide +kernel))
  have F22 : Fld Z h2 a9 "com/example/portunus/portunus/CommandFailure" "exitCode" "Lcom/example/portunus/portunus/ExitCode;" .null := (D7 (Or.inr (hw _ (List.mem_of_getElem? (i := 63) rfl))) (ty := (.object "com/example/portunus/portunus/ExitCode")) (by decide +kernel))
  refine own_bk (S' := (T1.setTop (mkF m 3 #[rv mg] [(.ref a9)]))) st8 ?_
  refine own_bk (S' := (T1.setTop (mkF m 4 #[rv mg] [(.ref a9), (.ref a9)]))) (fun t_ kont => XS.dup X3.here hx rfl (hb hby d1_3) rfl rfl kont) ?_
  obtain ⟨T23, X24, e25, st26⟩ := getS2 X3 hx hZ hown (host := "") (Or.inl (hw _ (List.mem_of_getElem? (i := 6) rfl))) Via.refl e4 (SR.ext O15.2) (g := (mkF m 4 #[rv mg] [(.ref a9), (.ref a9)])) rfl (hb hby d1_4)
  refine own_bk (S' := (T23.setTop (mkF m 7 #[rv mg] [(.ref rU), (.ref a9), (.ref a9)]))) st26 ?_
  refine own_bk (S' := (T23.setTop (mkF m 8 #[rv mg] [(.ref mg), (.ref rU), (.ref a9), (.ref a9)]))) (fun t_ kont => XS.aloadN X24.here hx rfl (hb hby d1_7) rfl rfl kont) ?_
  obtain ⟨_, _, ⟨T27, L28, k29, n30⟩, -, X31, ⟨Lc32, hQ33, l34, y35, z36⟩, st37⟩ := X24.specialBack hx (y := (⟨"com/example/portunus/portunus/CommandFailure", "<init>", "(Lcom/example/portunus/portunus/ExitCode;Ljava/lang/String;)V"⟩ : MethodName)) rfl hown (mvT hZ (hw _ (List.mem_of_getElem? (i := 9) rfl))) (mvT hZ (hw _ (List.mem_of_getElem? (i := 10) rfl))) (mvT hZ (hw _ (List.mem_of_getElem? (i := 11) rfl))) (by decide) (backOfKL (W := 1) (rmInitR l Z a0 hw [] a9 rU rS rL mg h2 n0 Z14 hl O15 SX SY A6 u11 ag12 F17 F18 F19 F20 F21 F22) hZ (hw _ (List.mem_of_getElem? (i := 11) rfl)) (hw _ (List.mem_of_getElem? (i := 2) rfl)) (by decide) (by decide) hK.1 hK.2) (g := (mkF m 8 #[rv mg] [(.ref mg), (.ref rU), (.ref a9), (.ref a9)])) rfl (by rw [hml]; rfl) (Steps.refl _) (a := a9) (argsL := [(.ref rU), (.ref mg)]) (rest := [(.ref a9)]) (lenOf (by decide +kernel : parseMethodDescriptor "(Lcom/example/portunus/portunus/ExitCode;Ljava/lang/String;)V" = some ⟨[(.object "com/example/portunus/portunus/ExitCode"), (.object "java/lang/String")], none⟩) rfl) rfl (by show 2 * 0 + _ ≤ _; exact Nat.le_of_eq rfl) (hb hby d1_8) (fun _ _ => ⟨rfl, e25, (by decide : 1 + 1 ≤ _), (by decide : 7 + 2752 ≤ _)⟩)
  dsimp only [Pt.U, Pt.locs, Pt.cells, Pt.slots] at X31 l34 y35 z36 st37 hQ33
  subst l34 y35 z36
  obtain ⟨rfl, N38, K_, E_, U_, g0_, g1_, g2_⟩ := hQ33
  have N40 := Fr.app N0 N38
  have Z41 := Nat.le_trans Z14 K_.1
  have O42 := O15.keep K_ (allS ag12 all0)
  have K43 := K16.trans K_ (allS (Or.inr kg13) all0)
  refine own_tr (S' := (T27.setTop (mkF m 11 #[rv mg] [(.ref a9)]))) st37 ?_
  exact own_retA X31 hx hlk Bd.returns rfl rfl rfl (hb hby d1_11) ⟨N40, O42, K43, _, rfl, E_, U_, g0_, g1_, g2_⟩ (by decide) (by decide)
theorem d7_0 : decode prog_3_method_5_code 0 = .ok (.aload_n 0, 1) := by decide +kernel
theorem d7_1 : decode prog_3_method_5_code 1 = .ok (.getfield 7, 3) := by decide +kernel
theorem d7_4 : decode prog_3_method_5_code 4 = .ok (.areturn, 1) := by decide +kernel
theorem ef_rmExitR (m : MethodId) (x0 : Addr) : entryFrame m #[(.ref x0)] 1 = mkF m 0 #[.val (.ref x0)] [] := by first | (simp [entryFrame, mkF, argsToLocals, Value.category, maxLocals]; done) | rfl
def Q_rmExitR (Z : State) (a x : Addr) (h0 : Heap) (n0 : Nat) (v : Option Value) (h : Heap) (L : List Loc) : Prop := v = some (.ref x) ∧ Fr n0 L ∧ h = h0
set_option maxRecDepth 65536 in
set_option maxHeartbeats 40000000 in
theorem rmExitR (l : Launch) (Z : State) (a0 : Array Value) (hw : ∀ d ∈ tables_1, d.before a0 Z = true) (ws : List Jvm.Cond) (a x : Addr) (h0 : Heap) (n0 : Nat) (Z0 : n0 ≤ h0.size) (F : Fld Z h0 a "com/example/portunus/portunus/CommandFailure" "exitCode" "Lcom/example/portunus/portunus/ExitCode;" (.ref x)) :
    MetFree l (⟨"com/example/portunus/portunus/CommandFailure", "exitCode", "()Lcom/example/portunus/portunus/ExitCode;"⟩ : MethodName) (head1 (Jvm.Cond.code (⟨"com/example/portunus/portunus/CommandFailure", "exitCode", "()Lcom/example/portunus/portunus/ExitCode;"⟩ : MethodName) prog_3_method_5_code 1 (some (.object "com/example/portunus/portunus/ExitCode")) :: ws) ({ frames := 0, cells := 0, slots := 0, locals := 0 } : Room)) (fun as_ U_ => as_ = #[(.ref a)] ∧ Z.Warmed39 U_.vm ∧ U_.heap = h0) (fun _ _ _ _ _ => True) (fun _ U_ o_ U2_ => ∃ v_ L_, o_ = .returned v_ ∧ (Q_rmExitR Z a x h0 n0) v_ U2_.heap L_ ∧ FrameEnd U_ o_ U2_ L_ ({ frames := 0, cells := 0, slots := 0, locals := 0 } : Room).cells ({ frames := 0, cells := 0, slots := 0, locals := 0 } : Room).slots) := by
  refine MetFree.of_bodySF (plainFor_of_name (by first | (simp [plainName, overriddenIn]; done) | decide +kernel : plainName "com/example/portunus/portunus/CommandFailure" = true)) hisR ?_
  intro p e s m args below meth c s₁ Bd hml0 hP hK
  obtain ⟨rfl, hZ, hh⟩ := hP
  have hx := Bd.exec
  have hby := Bd.bytes
  have hlk := Bd.notSynchronized
  have hml : c.maxLocals = 1 := hml0
  have hown : s.vm.findClass "com/example/portunus/portunus/CommandFailure" = some m.cls := findClass_of_methodNamed Bd.named
  have hnm := (name_of_methodNamed Bd.named Bd.method).1
  have X0 : Stand p l e ({ frames := 0, cells := 0, slots := 0, locals := 0 } : Room) s m #[(.ref a)] below meth c s₁ [] 0 0 := Stand.of_body Bd
  have e0 : s₁.heap = h0 := by rw [← hh, Bd.state]; rfl
  have N0 := Fr.nil n0
  show own_Go p e below (own_R s below (Q_rmExitR Z a x h0 n0) ({ frames := 0, cells := 0, slots := 0, locals := 0 } : Room).cells ({ frames := 0, cells := 0, slots := 0, locals := 0 } : Room).slots) (s₁.setTop (entryFrame m #[(.ref a)] 1))
  refine own_bk (S' := (s₁.setTop (mkF m 0 #[rv a] []))) (fun t_ kont => castTop (ef_rmExitR m (a)) kont) ?_
  refine own_bk (S' := (s₁.setTop (mkF m 1 #[rv a] [(.ref a)]))) (fun t_ kont => XS.aloadN X0.here hx rfl (hb hby d7_0) rfl rfl kont) ?_
  obtain ⟨T1, X2, e3, st4⟩ := getF X0 hx hZ hown (host := "") (Or.inl (hw _ (List.mem_of_getElem? (i := 62) rfl))) Via.refl e0 F (g := (mkF m 1 #[rv a] [(.ref a)])) rfl rfl (hb hby d7_1)
  refine own_bk (S' := (T1.setTop (mkF m 4 #[rv a] [(.ref x)]))) st4 ?_
  exact own_retA X2 hx hlk Bd.returns rfl rfl rfl (hb hby d7_4) ⟨rfl, N0, e3⟩ (by decide) (by decide)
theorem d8_0 : decode prog_8_method_4_code 0 = .ok (.aload_n 0, 1) := by decide +kernel
theorem d8_1 : decode prog_8_method_4_code 1 = .ok (.getfield 44, 3) := by decide +kernel
theorem d8_4 : decode prog_8_method_4_code 4 = .ok (.ireturn, 1) := by decide +kernel
theorem ef_rmCodeI (m : MethodId) (x0 : Addr) : entryFrame m #[(.ref x0)] 1 = mkF m 0 #[.val (.ref x0)] [] := by first | (simp [entryFrame, mkF, argsToLocals, Value.category, maxLocals]; done) | rfl
def Q_rmCodeI (Z : State) (a : Addr) (h0 : Heap) (n0 : Nat) (v : Option Value) (h : Heap) (L : List Loc) : Prop := v = some (.int (2 : Int32)) ∧ Fr n0 L ∧ h = h0
set_option maxRecDepth 65536 in
set_option maxHeartbeats 40000000 in
theorem rmCodeI (l : Launch) (Z : State) (a0 : Array Value) (hw : ∀ d ∈ tables_1, d.before a0 Z = true) (ws : List Jvm.Cond) (a : Addr) (h0 : Heap) (n0 : Nat) (Z0 : n0 ≤ h0.size) (F : Fld Z h0 a "com/example/portunus/portunus/ExitCode" "code" "I" (.int (2 : Int32))) :
    MetFree l (⟨"com/example/portunus/portunus/ExitCode", "code", "()I"⟩ : MethodName) (head1 (Jvm.Cond.code (⟨"com/example/portunus/portunus/ExitCode", "code", "()I"⟩ : MethodName) prog_8_method_4_code 1 (some .int) :: ws) ({ frames := 0, cells := 0, slots := 0, locals := 0 } : Room)) (fun as_ U_ => as_ = #[(.ref a)] ∧ Z.Warmed39 U_.vm ∧ U_.heap = h0) (fun _ _ _ _ _ => True) (fun _ U_ o_ U2_ => ∃ v_ L_, o_ = .returned v_ ∧ (Q_rmCodeI Z a h0 n0) v_ U2_.heap L_ ∧ FrameEnd U_ o_ U2_ L_ ({ frames := 0, cells := 0, slots := 0, locals := 0 } : Room).cells ({ frames := 0, cells := 0, slots := 0, locals := 0 } : Room).slots) := by
  refine MetFree.of_bodySF (plainFor_of_name (by first | (simp [plainName, overriddenIn]; done) | decide +kernel : plainName "com/example/portunus/portunus/ExitCode" = true)) hisR ?_
  intro p e s m args below meth c s₁ Bd hml0 hP hK
  obtain ⟨rfl, hZ, hh⟩ := hP
  have hx := Bd.exec
  have hby := Bd.bytes
  have hlk := Bd.notSynchronized
  have hml : c.maxLocals = 1 := hml0
  have hown : s.vm.findClass "com/example/portunus/portunus/ExitCode" = some m.cls := findClass_of_methodNamed Bd.named
  have hnm := (name_of_methodNamed Bd.named Bd.method).1
  have X0 : Stand p l e ({ frames := 0, cells := 0, slots := 0, locals := 0 } : Room) s m #[(.ref a)] below meth c s₁ [] 0 0 := Stand.of_body Bd
  have e0 : s₁.heap = h0 := by rw [← hh, Bd.state]; rfl
  have N0 := Fr.nil n0
  show own_Go p e below (own_R s below (Q_rmCodeI Z a h0 n0) ({ frames := 0, cells := 0, slots := 0, locals := 0 } : Room).cells ({ frames := 0, cells := 0, slots := 0, locals := 0 } : Room).slots) (s₁.setTop (entryFrame m #[(.ref a)] 1))
  refine own_bk (S' := (s₁.setTop (mkF m 0 #[rv a] []))) (fun t_ kont => castTop (ef_rmCodeI m (a)) kont) ?_
  refine own_bk (S' := (s₁.setTop (mkF m 1 #[rv a] [(.ref a)]))) (fun t_ kont => XS.aloadN X0.here hx rfl (hb hby d8_0) rfl rfl kont) ?_
  obtain ⟨T1, X2, e3, st4⟩ := getF X0 hx hZ hown (host := "") (Or.inl (hw _ (List.mem_of_getElem? (i := 75) rfl))) Via.refl e0 F (g := (mkF m 1 #[rv a] [(.ref a)])) rfl rfl (hb hby d8_1)
  refine own_bk (S' := (T1.setTop (mkF m 4 #[rv a] [(.int (2 : Int32))]))) st4 ?_
  exact own_retI X2 hx hlk Bd.returns (hb hby d8_4) ⟨rfl, N0, e3⟩ (by decide) (by decide)
theorem d9_0 : decode jdk_78_method_6_code 0 = .ok (.aload_n 0, 1) := by decide +kernel
theorem d9_1 : decode jdk_78_method_6_code 1 = .ok (.getfield 31, 3) := by decide +kernel
theorem d9_4 : decode jdk_78_method_6_code 4 = .ok (.areturn, 1) := by decide +kernel
theorem ef_rmMsgN (m : MethodId) (x0 : Addr) : entryFrame m #[(.ref x0)] 1 = mkF m 0 #[.val (.ref x0)] [] := by first | (simp [entryFrame, mkF, argsToLocals, Value.category, maxLocals]; done) | rfl
def Q_rmMsgN (Z : State) (a : Addr) (h0 : Heap) (n0 : Nat) (v : Option Value) (h : Heap) (L : List Loc) : Prop := v = some .null ∧ Fr n0 L ∧ h = h0
set_option maxRecDepth 65536 in
set_option maxHeartbeats 40000000 in
theorem rmMsgN (l : Launch) (Z : State) (a0 : Array Value) (hw : ∀ d ∈ tables_1, d.before a0 Z = true) (ws : List Jvm.Cond) (a : Addr) (h0 : Heap) (n0 : Nat) (Z0 : n0 ≤ h0.size) (F : Fld Z h0 a "java/lang/Throwable" "detailMessage" "Ljava/lang/String;" .null) :
    MetFree l (⟨"java/lang/Throwable", "getMessage", "()Ljava/lang/String;"⟩ : MethodName) (head1 (Jvm.Cond.code (⟨"java/lang/Throwable", "getMessage", "()Ljava/lang/String;"⟩ : MethodName) jdk_78_method_6_code 1 (some (.object "java/lang/String")) :: ws) ({ frames := 0, cells := 0, slots := 0, locals := 0 } : Room)) (fun as_ U_ => as_ = #[(.ref a)] ∧ Z.Warmed39 U_.vm ∧ U_.heap = h0) (fun _ _ _ _ _ => True) (fun _ U_ o_ U2_ => ∃ v_ L_, o_ = .returned v_ ∧ (Q_rmMsgN Z a h0 n0) v_ U2_.heap L_ ∧ FrameEnd U_ o_ U2_ L_ ({ frames := 0, cells := 0, slots := 0, locals := 0 } : Room).cells ({ frames := 0, cells := 0, slots := 0, locals := 0 } : Room).slots) := by
  refine MetFree.of_bodySF (plainFor_of_name (by first | (simp [plainName, overriddenIn]; done) | decide +kernel : plainName "java/lang/Throwable" = true)) hisR ?_
  intro p e s m args below meth c s₁ Bd hml0 hP hK
  obtain ⟨rfl, hZ, hh⟩ := hP
  have hx := Bd.exec
  have hby := Bd.bytes
  have hlk := Bd.notSynchronized
  have hml : c.maxLocals = 1 := hml0
  have hown : s.vm.findClass "java/lang/Throwable" = some m.cls := findClass_of_methodNamed Bd.named
  have hnm := (name_of_methodNamed Bd.named Bd.method).1
  have X0 : Stand p l e ({ frames := 0, cells := 0, slots := 0, locals := 0 } : Room) s m #[(.ref a)] below meth c s₁ [] 0 0 := Stand.of_body Bd
  have e0 : s₁.heap = h0 := by rw [← hh, Bd.state]; rfl
  have N0 := Fr.nil n0
  show own_Go p e below (own_R s below (Q_rmMsgN Z a h0 n0) ({ frames := 0, cells := 0, slots := 0, locals := 0 } : Room).cells ({ frames := 0, cells := 0, slots := 0, locals := 0 } : Room).slots) (s₁.setTop (entryFrame m #[(.ref a)] 1))
  refine own_bk (S' := (s₁.setTop (mkF m 0 #[rv a] []))) (fun t_ kont => castTop (ef_rmMsgN m (a)) kont) ?_
  refine own_bk (S' := (s₁.setTop (mkF m 1 #[rv a] [(.ref a)]))) (fun t_ kont => XS.aloadN X0.here hx rfl (hb hby d9_0) rfl rfl kont) ?_
  obtain ⟨T1, X2, e3, st4⟩ := getF X0 hx hZ hown (host := "") (Or.inl (hw _ (List.mem_of_getElem? (i := 61) rfl))) Via.refl e0 F (g := (mkF m 1 #[rv a] [(.ref a)])) rfl rfl (hb hby d9_1)
  refine own_bk (S' := (T1.setTop (mkF m 4 #[rv a] [.null]))) st4 ?_
  exact own_retA X2 hx hlk Bd.returns rfl rfl rfl (hb hby d9_4) ⟨rfl, N0, e3⟩ (by decide) (by decide)
theorem ef_rmMsgR (m : MethodId) (x0 : Addr) : entryFrame m #[(.ref x0)] 1 = mkF m 0 #[.val (.ref x0)] [] := by first | (simp [entryFrame, mkF, argsToLocals, Value.category, maxLocals]; done) | rfl
def Q_rmMsgR (Z : State) (a x : Addr) (h0 : Heap) (n0 : Nat) (v : Option Value) (h : Heap) (L : List Loc) : Prop := v = some (.ref x) ∧ Fr n0 L ∧ h = h0
set_option maxRecDepth 65536 in
set_option maxHeartbeats 40000000 in
theorem rmMsgR (l : Launch) (Z : State) (a0 : Array Value) (hw : ∀ d ∈ tables_1, d.before a0 Z = true) (ws : List Jvm.Cond) (a x : Addr) (h0 : Heap) (n0 : Nat) (Z0 : n0 ≤ h0.size) (F : Fld Z h0 a "java/lang/Throwable" "detailMessage" "Ljava/lang/String;" (.ref x)) :
    MetFree l (⟨"java/lang/Throwable", "getMessage", "()Ljava/lang/String;"⟩ : MethodName) (head1 (Jvm.Cond.code (⟨"java/lang/Throwable", "getMessage", "()Ljava/lang/String;"⟩ : MethodName) jdk_78_method_6_code 1 (some (.object "java/lang/String")) :: ws) ({ frames := 0, cells := 0, slots := 0, locals := 0 } : Room)) (fun as_ U_ => as_ = #[(.ref a)] ∧ Z.Warmed39 U_.vm ∧ U_.heap = h0) (fun _ _ _ _ _ => True) (fun _ U_ o_ U2_ => ∃ v_ L_, o_ = .returned v_ ∧ (Q_rmMsgR Z a x h0 n0) v_ U2_.heap L_ ∧ FrameEnd U_ o_ U2_ L_ ({ frames := 0, cells := 0, slots := 0, locals := 0 } : Room).cells ({ frames := 0, cells := 0, slots := 0, locals := 0 } : Room).slots) := by
  refine MetFree.of_bodySF (plainFor_of_name (by first | (simp [plainName, overriddenIn]; done) | decide +kernel : plainName "java/lang/Throwable" = true)) hisR ?_
  intro p e s m args below meth c s₁ Bd hml0 hP hK
  obtain ⟨rfl, hZ, hh⟩ := hP
  have hx := Bd.exec
  have hby := Bd.bytes
  have hlk := Bd.notSynchronized
  have hml : c.maxLocals = 1 := hml0
  have hown : s.vm.findClass "java/lang/Throwable" = some m.cls := findClass_of_methodNamed Bd.named
  have hnm := (name_of_methodNamed Bd.named Bd.method).1
  have X0 : Stand p l e ({ frames := 0, cells := 0, slots := 0, locals := 0 } : Room) s m #[(.ref a)] below meth c s₁ [] 0 0 := Stand.of_body Bd
  have e0 : s₁.heap = h0 := by rw [← hh, Bd.state]; rfl
  have N0 := Fr.nil n0
  show own_Go p e below (own_R s below (Q_rmMsgR Z a x h0 n0) ({ frames := 0, cells := 0, slots := 0, locals := 0 } : Room).cells ({ frames := 0, cells := 0, slots := 0, locals := 0 } : Room).slots) (s₁.setTop (entryFrame m #[(.ref a)] 1))
  refine own_bk (S' := (s₁.setTop (mkF m 0 #[rv a] []))) (fun t_ kont => castTop (ef_rmMsgR m (a)) kont) ?_
  refine own_bk (S' := (s₁.setTop (mkF m 1 #[rv a] [(.ref a)]))) (fun t_ kont => XS.aloadN X0.here hx rfl (hb hby d9_0) rfl rfl kont) ?_
  obtain ⟨T1, X2, e3, st4⟩ := getF X0 hx hZ hown (host := "") (Or.inl (hw _ (List.mem_of_getElem? (i := 61) rfl))) Via.refl e0 F (g := (mkF m 1 #[rv a] [(.ref a)])) rfl rfl (hb hby d9_1)
  refine own_bk (S' := (T1.setTop (mkF m 4 #[rv a] [(.ref x)]))) st4 ?_
  exact own_retA X2 hx hlk Bd.returns rfl rfl rfl (hb hby d9_4) ⟨rfl, N0, e3⟩ (by decide) (by decide)
theorem d13_0 : decode jdk_42_method_66_code 0 = .ok (.aload_n 0, 1) := by decide +kernel
theorem d13_1 : decode jdk_42_method_66_code 1 = .ok (.aload_n 1, 1) := by decide +kernel
theorem d13_2 : decode jdk_42_method_66_code 2 = .ok (.if_acmp .ne 5, 3) := by decide +kernel
theorem d13_5 : decode jdk_42_method_66_code 5 = .ok (.iconst 1, 1) := by decide +kernel
theorem d13_6 : decode jdk_42_method_66_code 6 = .ok (.ireturn, 1) := by decide +kernel
theorem d13_7 : decode jdk_42_method_66_code 7 = .ok (.aload_n 1, 1) := by decide +kernel
theorem d13_8 : decode jdk_42_method_66_code 8 = .ok (.instanceof 10, 3) := by decide +kernel
theorem d13_11 : decode jdk_42_method_66_code 11 = .ok (.ifCond .eq 43, 3) := by decide +kernel
theorem d13_14 : decode jdk_42_method_66_code 14 = .ok (.aload_n 1, 1) := by decide +kernel
theorem d13_15 : decode jdk_42_method_66_code 15 = .ok (.checkcast 10, 3) := by decide +kernel
theorem d13_18 : decode jdk_42_method_66_code 18 = .ok (.astore_n 2, 1) := by decide +kernel
theorem d13_19 : decode jdk_42_method_66_code 19 = .ok (.getstatic 38, 3) := by decide +kernel
theorem d13_22 : decode jdk_42_method_66_code 22 = .ok (.ifCond .eq 14, 3) := by decide +kernel
theorem d13_25 : decode jdk_42_method_66_code 25 = .ok (.aload_n 0, 1) := by decide +kernel
theorem d13_26 : decode jdk_42_method_66_code 26 = .ok (.getfield 15, 3) := by decide +kernel
theorem d13_29 : decode jdk_42_method_66_code 29 = .ok (.aload_n 2, 1) := by decide +kernel
theorem d13_30 : decode jdk_42_method_66_code 30 = .ok (.getfield 15, 3) := by decide +kernel
theorem d13_33 : decode jdk_42_method_66_code 33 = .ok (.if_icmp .ne 21, 3) := by decide +kernel
theorem d13_36 : decode jdk_42_method_66_code 36 = .ok (.aload_n 0, 1) := by decide +kernel
theorem d13_37 : decode jdk_42_method_66_code 37 = .ok (.getfield 9, 3) := by decide +kernel
theorem d13_40 : decode jdk_42_method_66_code 40 = .ok (.aload_n 2, 1) := by decide +kernel
theorem d13_41 : decode jdk_42_method_66_code 41 = .ok (.getfield 9, 3) := by decide +kernel
theorem d13_44 : decode jdk_42_method_66_code 44 = .ok (.invokestatic 541, 3) := by decide +kernel
theorem d13_47 : decode jdk_42_method_66_code 47 = .ok (.ifCond .eq 7, 3) := by decide +kernel
theorem d13_50 : decode jdk_42_method_66_code 50 = .ok (.iconst 1, 1) := by decide +kernel
theorem d13_51 : decode jdk_42_method_66_code 51 = .ok (.goto 4, 3) := by decide +kernel
theorem d13_54 : decode jdk_42_method_66_code 54 = .ok (.iconst 0, 1) := by decide +kernel
theorem d13_55 : decode jdk_42_method_66_code 55 = .ok (.ireturn, 1) := by decide +kernel
theorem ef_rmEq (m : MethodId) (x0 : Addr) (x1 : Addr) : entryFrame m #[(.ref x0), (.ref x1)] 3 = mkF m 0 #[.val (.ref x0), .val (.ref x1), .unset] [] := by first | (simp [entryFrame, mkF, argsToLocals, Value.category, maxLocals]; done) | rfl
def Q_rmEq (Z : State) (a : Addr) (h0 : Heap) (n0 : Nat) (v : Option Value) (h : Heap) (L : List Loc) : Prop := v = some (.int 1) ∧ Fr n0 L ∧ h = h0
set_option maxRecDepth 65536 in
set_option maxHeartbeats 40000000 in
theorem rmEq (l : Launch) (Z : State) (a0 : Array Value) (hw : ∀ d ∈ tables_1, d.before a0 Z = true) (ws : List Jvm.Cond) (a : Addr) (h0 : Heap) (n0 : Nat) (Z0 : n0 ≤ h0.size)  :
    MetFree l (⟨"java/lang/String", "equals", "(Ljava/lang/Object;)Z"⟩ : MethodName) (head1 (Jvm.Cond.code (⟨"java/lang/String", "equals", "(Ljava/lang/Object;)Z"⟩ : MethodName) jdk_42_method_66_code 3 (some .boolean) :: ws) ({ frames := 0, cells := 0, slots := 0, locals := 0 } : Room)) (fun as_ U_ => as_ = #[(.ref a), (.ref a)] ∧ Z.Warmed39 U_.vm ∧ U_.heap = h0) (fun _ _ _ _ _ => True) (fun _ U_ o_ U2_ => ∃ v_ L_, o_ = .returned v_ ∧ (Q_rmEq Z a h0 n0) v_ U2_.heap L_ ∧ FrameEnd U_ o_ U2_ L_ ({ frames := 0, cells := 0, slots := 0, locals := 0 } : Room).cells ({ frames := 0, cells := 0, slots := 0, locals := 0 } : Room).slots) := by
  refine MetFree.of_bodySF (plainFor_of_name (by first | (simp [plainName, overriddenIn]; done) | decide +kernel : plainName "java/lang/String" = true)) hisR ?_
  intro p e s m args below meth c s₁ Bd hml0 hP hK
  obtain ⟨rfl, hZ, hh⟩ := hP
  have hx := Bd.exec
  have hby := Bd.bytes
  have hlk := Bd.notSynchronized
  have hml : c.maxLocals = 3 := hml0
  have hown : s.vm.findClass "java/lang/String" = some m.cls := findClass_of_methodNamed Bd.named
  have hnm := (name_of_methodNamed Bd.named Bd.method).1
  have X0 : Stand p l e ({ frames := 0, cells := 0, slots := 0, locals := 0 } : Room) s m #[(.ref a), (.ref a)] below meth c s₁ [] 0 0 := Stand.of_body Bd
  have e0 : s₁.heap = h0 := by rw [← hh, Bd.state]; rfl
  have N0 := Fr.nil n0
  show own_Go p e below (own_R s below (Q_rmEq Z a h0 n0) ({ frames := 0, cells := 0, slots := 0, locals := 0 } : Room).cells ({ frames := 0, cells := 0, slots := 0, locals := 0 } : Room).slots) (s₁.setTop (entryFrame m #[(.ref a), (.ref a)] 3))
  refine own_bk (S' := (s₁.setTop (mkF m 0 #[rv a, rv a, .unset] []))) (fun t_ kont => castTop (ef_rmEq m (a) (a)) kont) ?_
  refine own_bk (S' := (s₁.setTop (mkF m 1 #[rv a, rv a, .unset] [(.ref a)]))) (fun t_ kont => XS.aloadN X0.here hx rfl (hb hby d13_0) rfl rfl kont) ?_
  refine own_bk (S' := (s₁.setTop (mkF m 2 #[rv a, rv a, .unset] [(.ref a), (.ref a)]))) (fun t_ kont => XS.aloadN X0.here hx rfl (hb hby d13_1) rfl rfl kont) ?_
  refine own_bk (S' := (s₁.setTop (mkF m 5 #[rv a, rv a, .unset] []))) (fun t_ kont => Jvm.RoadKit.acmp (g := (mkF m 2 #[rv a, rv a, .unset] [(.ref a), (.ref a)])) X0 hx rfl rfl rfl (pc0 := 2) (pc' := 5) (same := true) rfl (hb hby d13_2) rfl (decide_eq_true rfl) (by decide) (by decide) kont) ?_
  refine own_bk (S' := (s₁.setTop (mkF m 6 #[rv a, rv a, .unset] [(.int (1 : Int32))]))) (fun t_ kont => XS.iconst X0.here hx rfl (hb hby d13_5) kont) ?_
  exact own_retN X0 hx hlk (t := .boolean) (w := (1 : Int32)) Bd.returns (by simp) (hb hby d13_6) rfl ⟨rfl, N0, e0⟩ (by decide) (by decide)
theorem ef_rm0 (m : MethodId) (x0 : Int32) (x1 : Int32) (x2 : Int32) (x3 : Int32) : entryFrame m #[(.int x0), (.int x1), (.int x2), (.int x3)] maxLocals = mkF m 0 #[.val (.int x0), .val (.int x1), .val (.int x2), .val (.int x3), .unset, .unset, .unset, .unset, .unset] [] := by first | (simp [entryFrame, mkF, argsToLocals, Value.category, maxLocals]; done) | rfl
def Q_rm0 (Z : State) (v0 v1 v2 v3 cz : Int32) (rU rS rL : Addr) (h0 : Heap) (n0 : Nat) (v : Option Value) (h : Heap) (L : List Loc) : Prop := v = some (.int 1) ∧ Fr n0 L
set_option maxRecDepth 65536 in
set_option maxHeartbeats 40000000 in
theorem rm0 (l : Launch) (Z : State) (a0 : Array Value) (hw : ∀ d ∈ tables_1, d.before a0 Z = true) (ws : List Jvm.Cond) (v0 v1 v2 v3 cz : Int32) (rU rS rL : Addr) (h0 : Heap) (n0 : Nat) (Z0 : n0 ≤ h0.size) (hl : l.stackTraces = true) (O : Old Z n0 h0) (SX : Sta Z Z.heap "java/lang/Throwable" "UNASSIGNED_STACK" "[Ljava/lang/StackTraceElement;" (.ref rS)) (SY : Sta Z Z.heap "java/lang/Throwable" "SUPPRESSED_SENTINEL" "Ljava/util/List;" (.ref rL)) (SU : own_St Z cz) (SR : Sta Z Z.heap "com/example/portunus/portunus/ExitCode" "USAGE" "Lcom/example/portunus/portunus/ExitCode;" (.ref rU)) (ER : Exa Z Z.heap rU "com/example/portunus/portunus/ExitCode") (FR : Fld Z Z.heap rU "com/example/portunus/portunus/ExitCode" "code" "I" (.int 2)) :
    MetFree l x (head1 (Jvm.Cond.code x code maxLocals ret :: ws) room_1) (fun as_ U_ => as_ = #[(.int v0), (.int v1), (.int v2), (.int v3)] ∧ Z.Warmed39 U_.vm ∧ U_.heap = h0 ∧ CHv Z own_EL U_.vm h0) (fun _ _ bl s _ => s.vm.MethodsKnown ∧ s.vm.FramesKnown bl) (fun _ U_ o_ U2_ => ∃ v_ L_, o_ = .returned v_ ∧ (Q_rm0 Z v0 v1 v2 v3 cz rU rS rL h0 n0) v_ U2_.heap L_ ∧ ReturnedEndW U_ o_ U2_ L_ room_1.cells room_1.slots) := by
  refine MetFree.of_bodySF (plainFor_of_name (by first | (simp [plainName, overriddenIn]; done) | decide +kernel : plainName "com/example/portunus/portunus/CommandFailureUsagePinLaw" = true)) hisR ?_
  intro p e s m args below meth c s₁ Bd hml0 hP hK
  obtain ⟨rfl, hZ, hh, hCH⟩ := hP
  have hEL : EW Z a0 own_EL := EW.cons (hw _ (List.mem_of_getElem? (i := 106) rfl)) (by decide) EW.nil
  have hx := Bd.exec
  have hby := Bd.bytes
  have hlk := Bd.notSynchronized
  have hml : c.maxLocals = 9 := hml0
  have hown : s.vm.findClass "com/example/portunus/portunus/CommandFailureUsagePinLaw" = some m.cls := findClass_of_methodNamed Bd.named
  have hnm := (name_of_methodNamed Bd.named Bd.method).1
  have X0 : Stand p l e room_1 (s.setVm s.vm) m #[(.int v0), (.int v1), (.int v2), (.int v3)] below meth c s₁ [] 0 0 := Stand.of_body Bd
  have hS : s.Since s.vm 0 := (State.WarmedH.refl s).since 0
  have hk0 : 0 ≤ h0.size := Nat.zero_le _
  have hwS : ∀ d ∈ Bundle.stringAtoms, d.before a0 Z = true := fun d hd => hw d ((by decide +kernel : ∀ d ∈ Bundle.stringAtoms, d ∈ tables_1) d hd)
  have e0 : s₁.heap = h0 := by rw [← hh, Bd.state]; rfl
  have N0 := Fr.nil n0
  show own_Go p e below (own_RW s below (Q_rm0 Z v0 v1 v2 v3 cz rU rS rL h0 n0) room_1.cells room_1.slots) (s₁.setTop (entryFrame m #[(.int v0), (.int v1), (.int v2), (.int v3)] maxLocals))
  refine own_bk (S' := (s₁.setTop (mkF m 0 #[iv v0, iv v1, iv v2, iv v3, .unset, .unset, .unset, .unset, .unset] []))) (fun t_ kont => castTop (ef_rm0 m (v0) (v1) (v2) (v3)) kont) ?_
  refine own_bk (S' := (s₁.setTop (mkF m 1 #[iv v0, iv v1, iv v2, iv v3, .unset, .unset, .unset, .unset, .unset] [(.int v0)]))) (fun t_ kont => XS.iloadN X0.here hx rfl (hb hby at_0) rfl kont) ?_
  refine own_bk (S' := (s₁.setTop (mkF m 2 #[iv v0, iv v1, iv v2, iv v3, .unset, .unset, .unset, .unset, .unset] [(.int (2 : Int32)), (.int v0)]))) (fun t_ kont => XS.iconst X0.here hx rfl (hb hby at_1) kont) ?_
  refine own_bk (S' := (s₁.setTop (mkF m 3 #[iv v0, iv v1, iv v2, iv v3, .unset, .unset, .unset, .unset, .unset] [(.int (v0.toUInt32 >>> ((2 : Int32) &&& 31).toUInt32).toInt32)]))) (fun t_ kont => XS.iushr X0.here hx rfl (hb hby at_2) rfl kont) ?_
  refine own_bk (S' := (s₁.setTop (mkF m 5 #[iv v0, iv v1, iv v2, iv v3, .unset, .unset, .unset, .unset, .unset] [(.int (7 : Int32)), (.int (v0.toUInt32 >>> ((2 : Int32) &&& 31).toUInt32).toInt32)]))) (fun t_ kont => XS.bipush X0.here hx rfl (hb hby at_3) kont) ?_
  refine own_bk (S' := (s₁.setTop (mkF m 6 #[iv v0, iv v1, iv v2, iv v3, .unset, .unset, .unset, .unset, .unset] [(.int ((v0.toUInt32 >>> ((2 : Int32) &&& 31).toUInt32).toInt32 &&& (7 : Int32)))]))) (fun t_ kont => XS.iand X0.here hx rfl (hb hby at_5) rfl kont) ?_
  by_cases hc1 : (((v0.toUInt32 >>> ((2 : Int32) &&& 31).toUInt32).toInt32 &&& (7 : Int32))) = ((0 : Int32))
  · refine own_bk (S' := (s₁.setTop (mkF m 9 #[iv v0, iv v1, iv v2, iv v3, .unset, .unset, .unset, .unset, .unset] []))) (fun t_ kont => XS.ifNo X0.here hx rfl (hb hby at_6) rfl ((if0 _ _).trans (teq (hc1)).2) kont) ?_
    refine own_bk (S' := (s₁.setTop (mkF m 10 #[iv v0, iv v1, iv v2, iv v3, .unset, .unset, .unset, .unset, .unset] [(.int (1 : Int32))]))) (fun t_ kont => XS.iconst X0.here hx rfl (hb hby at_9) kont) ?_
    refine own_bk (S' := (s₁.setTop (mkF m 14 #[iv v0, iv v1, iv v2, iv v3, .unset, .unset, .unset, .unset, .unset] [(.int (1 : Int32))]))) (fun t_ kont => XS.goto X0.here hx rfl (pc0 := 10) (pc' := 14) rfl (hb hby at_10) (by decide) (by decide) kont) ?_
    refine own_bk (S' := (s₁.setTop (mkF m 16 #[iv v0, iv v1, iv v2, iv v3, iv (1 : Int32), .unset, .unset, .unset, .unset] []))) (fun t_ kont => XS.istore X0.here hx rfl (hb hby at_14) rfl (l' := #[iv v0, iv v1, iv v2, iv v3, iv (1 : Int32), .unset, .unset, .unset, .unset]) rfl kont) ?_
    refine own_bk (S' := (s₁.setTop (mkF m 18 #[iv v0, iv v1, iv v2, iv v3, iv (1 : Int32), .unset, .unset, .unset, .unset] [(.int (1 : Int32))]))) (fun t_ kont => XS.iload X0.here hx rfl (hb hby at_16) rfl kont) ?_
    refine own_bk (S' := (s₁.setTop (mkF m 21 #[iv v0, iv v1, iv v2, iv v3, iv (1 : Int32), .unset, .unset, .unset, .unset] []))) (fun t_ kont => XS.ifNo X0.here hx rfl (hb hby at_18) rfl ((if0 _ _).trans (feq (by decide : ¬ ((1 : Int32)) = ((0 : Int32)))).1) kont) ?_
    refine own_bk (S' := (s₁.setTop (mkF m 22 #[iv v0, iv v1, iv v2, iv v3, iv (1 : Int32), .unset, .unset, .unset, .unset] [.null]))) (fun t_ kont => XS.aconstNull X0.here hx rfl (hb hby at_21) kont) ?_
    refine own_bk (S' := (s₁.setTop (mkF m 32 #[iv v0, iv v1, iv v2, iv v3, iv (1 : Int32), .unset, .unset, .unset, .unset] [.null]))) (fun t_ kont => XS.goto X0.here hx rfl (pc0 := 22) (pc' := 32) rfl (hb hby at_22) (by decide) (by decide) kont) ?_
    refine own_bk (S' := (s₁.setTop (mkF m 34 #[iv v0, iv v1, iv v2, iv v3, iv (1 : Int32), .val .null, .unset, .unset, .unset] []))) (fun t_ kont => XS.astore X0.here hx rfl (hb hby at_32) rfl rfl (l' := #[iv v0, iv v1, iv v2, iv v3, iv (1 : Int32), .val .null, .unset, .unset, .unset]) rfl kont) ?_
    refine own_bk (S' := (s₁.setTop (mkF m 36 #[iv v0, iv v1, iv v2, iv v3, iv (1 : Int32), .val .null, .unset, .unset, .unset] [.null]))) (fun t_ kont => XS.aload X0.here hx rfl (hb hby at_34) rfl rfl kont) ?_
    obtain ⟨_, _, ⟨T2, L3, k4, n5⟩, -, X6, ⟨Lc7, hQ8, l9, y10, z11⟩, st12⟩ := Jvm.LawKit.callS X0 hx (y := (⟨"com/example/portunus/portunus/CommandFailure", "usage", "(Ljava/lang/String;)Lcom/example/portunus/portunus/CommandFailure;"⟩ : MethodName)) hown (mvT hZ (hw _ (List.mem_of_getElem? (i := 0) rfl))) (mvT hZ (hw _ (List.mem_of_getElem? (i := 1) rfl))) (mvT hZ (hw _ (List.mem_of_getElem? (i := 2) rfl))) (mvT hZ (hw _ (List.mem_of_getElem? (i := 3) rfl))) (by decide) (backOfKL (W := 0) (rmUseN l Z a0 hw [] rU rS rL h0 n0 Z0 hl O SX SY SR) hZ (hw _ (List.mem_of_getElem? (i := 3) rfl)) (hw _ (List.mem_of_getElem? (i := 2) rfl)) (by decide) (by decide) (Vm.MethodsKnown.alikeC hS.1.alike hK.1) (Vm.FramesKnown.alikeC hS.1.alike hK.2)) (g := (mkF m 36 #[iv v0, iv v1, iv v2, iv v3, iv (1 : Int32), .val .null, .unset, .unset, .unset] [.null])) rfl (by rw [hml]; rfl) (argsL := [.null]) (rest := []) (lenOf (by decide +kernel : parseMethodDescriptor "(Ljava/lang/String;)Lcom/example/portunus/portunus/CommandFailure;" = some ⟨[(.object "java/lang/String")], some (.object "com/example/portunus/portunus/CommandFailure")⟩) rfl) rfl (by show 2 * 0 + _ ≤ _; exact Nat.le_of_eq rfl) (hb hby at_36) (fun _ _ => ⟨rfl, e0, (by decide : 0 + 2 ≤ _), (by decide : 0 + 2759 ≤ _)⟩)
    dsimp only [Pt.U, Pt.locs, Pt.cells, Pt.slots] at X6 l9 y10 z11 st12 hQ8
    subst l9 y10 z11
    obtain ⟨N13, O2_, K2_, f_, rfl, Ef_, Uf_, f0_, f1_, f2_⟩ := hQ8
    have N15 := Fr.app N0 N13
    have Z16 := Nat.le_trans Z0 K2_.1
    have hk17 := Nat.le_trans hk0 K2_.1
    have O18 := O.keep K2_ all0
    refine own_bk (S' := (T2.setTop (mkF m 39 #[iv v0, iv v1, iv v2, iv v3, iv (1 : Int32), .val .null, .unset, .unset, .unset] [(.ref f_)]))) st12 ?_
    refine own_bk (S' := (T2.setTop (mkF m 41 #[iv v0, iv v1, iv v2, iv v3, iv (1 : Int32), .val .null, rv f_, .unset, .unset] []))) (fun t_ kont => XS.astore X6.here hx rfl (hb hby at_39) rfl rfl (l' := #[iv v0, iv v1, iv v2, iv v3, iv (1 : Int32), .val .null, rv f_, .unset, .unset]) rfl kont) ?_
    refine own_bk (S' := (T2.setTop (mkF m 43 #[iv v0, iv v1, iv v2, iv v3, iv (1 : Int32), .val .null, rv f_, .unset, .unset] [(.ref f_)]))) (fun t_ kont => XS.aload X6.here hx rfl (hb hby at_41) rfl rfl kont) ?_
    refine own_bk (S' := (T2.setTop (mkF m 48 #[iv v0, iv v1, iv v2, iv v3, iv (1 : Int32), .val .null, rv f_, .unset, .unset] []))) (fun t_ kont => XS.ifnonnullYes X6.here hx rfl (pc0 := 43) (pc' := 48) rfl (hb hby at_43) rfl (by decide) (by decide) kont) ?_
    refine own_bk (S' := (T2.setTop (mkF m 50 #[iv v0, iv v1, iv v2, iv v3, iv (1 : Int32), .val .null, rv f_, .unset, .unset] [(.ref f_)]))) (fun t_ kont => XS.aload X6.here hx rfl (hb hby at_48) rfl rfl kont) ?_
    obtain ⟨cqq30, kqq30, q30a, q30b, q30c⟩ := isOf hZ rfl Ef_
    obtain ⟨_, _, ⟨T19, L20, k21, n22⟩, -, X23, ⟨Lc24, hQ25, l26, y27, z28⟩, st29⟩ := X6.virtualBack hx (y := (⟨"com/example/portunus/portunus/CommandFailure", "exitCode", "()Lcom/example/portunus/portunus/ExitCode;"⟩ : MethodName)) (z := (⟨"com/example/portunus/portunus/CommandFailure", "exitCode", "()Lcom/example/portunus/portunus/ExitCode;"⟩ : MethodName)) hown (mvT hZ (hw _ (List.mem_of_getElem? (i := 64) rfl))) (mvT hZ (hw _ (List.mem_of_getElem? (i := 65) rfl))) (notFace_of_selects (args := #[]) (mvT hZ (hw _ (List.mem_of_getElem? (i := 67) rfl)))) (mvT hZ (hw _ (List.mem_of_getElem? (i := 67) rfl))) (mvT hZ (hw _ (List.mem_of_getElem? (i := 66) rfl))) (by decide) (backOf (W := 0) (rmExitR l Z a0 hw [] f_ rU T2.heap n0 Z16 f0_) hZ (hw _ (List.mem_of_getElem? (i := 68) rfl)) (hw _ (List.mem_of_getElem? (i := 2) rfl)) (by decide) (by decide)) q30a q30c (g := (mkF m 50 #[iv v0, iv v1, iv v2, iv v3, iv (1 : Int32), .val .null, rv f_, .unset, .unset] [(.ref f_)])) rfl (by rw [hml]; rfl) (Steps.refl _) (argsL := []) (rest := []) (lenOf (by decide +kernel : parseMethodDescriptor "()Lcom/example/portunus/portunus/ExitCode;" = some ⟨[], some (.object "com/example/portunus/portunus/ExitCode")⟩) rfl) rfl (by show 2 * 0 + _ ≤ _; exact Nat.le_of_eq rfl) (hb hby at_50) (fun _ _ => ⟨rfl, rfl, (by decide : 2 + 0 ≤ _), (by decide : 2759 + 0 ≤ _)⟩)
    dsimp only [Pt.U, Pt.locs, Pt.cells, Pt.slots] at X23 l26 y27 z28 st29 hQ25
    subst l26 y27 z28
    obtain ⟨rfl, N31, e32⟩ := hQ25
    have N33 := Fr.app N15 N31
    refine own_tr (S' := (T19.setTop (mkF m 53 #[iv v0, iv v1, iv v2, iv v3, iv (1 : Int32), .val .null, rv f_, .unset, .unset] [(.ref rU)]))) st29 ?_
    refine own_bk (S' := (T19.setTop (mkF m 55 #[iv v0, iv v1, iv v2, iv v3, iv (1 : Int32), .val .null, rv f_, rv rU, .unset] []))) (fun t_ kont => XS.astore X23.here hx rfl (hb hby at_53) rfl rfl (l' := #[iv v0, iv v1, iv v2, iv v3, iv (1 : Int32), .val .null, rv f_, rv rU, .unset]) rfl kont) ?_
    refine own_bk (S' := (T19.setTop (mkF m 57 #[iv v0, iv v1, iv v2, iv v3, iv (1 : Int32), .val .null, rv f_, rv rU, .unset] [(.ref rU)]))) (fun t_ kont => XS.aload X23.here hx rfl (hb hby at_55) rfl rfl kont) ?_
    obtain ⟨T34, X35, e36, st37⟩ := getS2 X23 hx hZ hown (host := "") (Or.inl (hw _ (List.mem_of_getElem? (i := 69) rfl))) Via.refl e32 (SR.ext O2_.2) (g := (mkF m 57 #[iv v0, iv v1, iv v2, iv v3, iv (1 : Int32), .val .null, rv f_, rv rU, .unset] [(.ref rU)])) rfl (hb hby at_57)
    refine own_bk (S' := (T34.setTop (mkF m 60 #[iv v0, iv v1, iv v2, iv v3, iv (1 : Int32), .val .null, rv f_, rv rU, .unset] [(.ref rU), (.ref rU)]))) st37 ?_
    refine own_bk (S' := (T34.setTop (mkF m 65 #[iv v0, iv v1, iv v2, iv v3, iv (1 : Int32), .val .null, rv f_, rv rU, .unset] []))) (fun t_ kont => Jvm.RoadKit.acmp (g := (mkF m 60 #[iv v0, iv v1, iv v2, iv v3, iv (1 : Int32), .val .null, rv f_, rv rU, .unset] [(.ref rU), (.ref rU)])) X35 hx rfl rfl rfl (pc0 := 60) (pc' := 65) (same := true) rfl (hb hby at_60) rfl (decide_eq_true rfl) (by decide) (by decide) kont) ?_
    refine own_bk (S' := (T34.setTop (mkF m 67 #[iv v0, iv v1, iv v2, iv v3, iv (1 : Int32), .val .null, rv f_, rv rU, .unset] [(.ref rU)]))) (fun t_ kont => XS.aload X35.here hx rfl (hb hby at_65) rfl rfl kont) ?_
    obtain ⟨cqq49, kqq49, q49a, q49b, q49c⟩ := isOf hZ e36 (ER.ext O2_.2)
    obtain ⟨_, _, ⟨T38, L39, k40, n41⟩, -, X42, ⟨Lc43, hQ44, l45, y46, z47⟩, st48⟩ := X35.virtualBack hx (y := (⟨"com/example/portunus/portunus/ExitCode", "code", "()I"⟩ : MethodName)) (z := (⟨"com/example/portunus/portunus/ExitCode", "code", "()I"⟩ : MethodName)) hown (mvT hZ (hw _ (List.mem_of_getElem? (i := 70) rfl))) (mvT hZ (hw _ (List.mem_of_getElem? (i := 71) rfl))) (notFace_of_selects (args := #[]) (mvT hZ (hw _ (List.mem_of_getElem? (i := 73) rfl)))) (mvT hZ (hw _ (List.mem_of_getElem? (i := 73) rfl))) (mvT hZ (hw _ (List.mem_of_getElem? (i := 72) rfl))) (by decide) (backOf (W := 0) (rmCodeI l Z a0 hw [] rU T2.heap n0 Z16 (FR.ext O2_.2)) hZ (hw _ (List.mem_of_getElem? (i := 74) rfl)) (hw _ (List.mem_of_getElem? (i := 7) rfl)) (by decide) (by decide)) q49a q49c (g := (mkF m 67 #[iv v0, iv v1, iv v2, iv v3, iv (1 : Int32), .val .null, rv f_, rv rU, .unset] [(.ref rU)])) rfl (by rw [hml]; rfl) (Steps.refl _) (argsL := []) (rest := []) (lenOf (by decide +kernel : parseMethodDescriptor "()I" = some ⟨[], some .int⟩) rfl) rfl (by show 2 * 0 + _ ≤ _; exact Nat.le_of_eq rfl) (hb hby at_67) (fun _ _ => ⟨rfl, e36, (by decide : 2 + 0 ≤ _), (by decide : 2759 + 0 ≤ _)⟩)
    dsimp only [Pt.U, Pt.locs, Pt.cells, Pt.slots] at X42 l45 y46 z47 st48 hQ44
    subst l45 y46 z47
    obtain ⟨rfl, N50, e51⟩ := hQ44
    have N52 := Fr.app N33 N50
    refine own_tr (S' := (T38.setTop (mkF m 70 #[iv v0, iv v1, iv v2, iv v3, iv (1 : Int32), .val .null, rv f_, rv rU, .unset] [(.int (2 : Int32))]))) st48 ?_
    refine own_bk (S' := (T38.setTop (mkF m 71 #[iv v0, iv v1, iv v2, iv v3, iv (1 : Int32), .val .null, rv f_, rv rU, .unset] [(.int (2 : Int32)), (.int (2 : Int32))]))) (fun t_ kont => XS.iconst X42.here hx rfl (hb hby at_70) kont) ?_
    refine own_bk (S' := (T38.setTop (mkF m 76 #[iv v0, iv v1, iv v2, iv v3, iv (1 : Int32), .val .null, rv f_, rv rU, .unset] []))) (fun t_ kont => XS.icmpYes X42.here hx rfl (pc0 := 71) (pc' := 76) rfl (hb hby at_71) rfl (teq (by decide : ((2 : Int32)) = ((2 : Int32)))).1 (by decide) (by decide) kont) ?_
    refine own_bk (S' := (T38.setTop (mkF m 78 #[iv v0, iv v1, iv v2, iv v3, iv (1 : Int32), .val .null, rv f_, rv rU, .unset] [(.ref f_)]))) (fun t_ kont => XS.aload X42.here hx rfl (hb hby at_76) rfl rfl kont) ?_
    obtain ⟨cqq64, kqq64, q64a, q64b, q64c⟩ := isOf hZ e51 Ef_
    obtain ⟨_, _, ⟨T53, L54, k55, n56⟩, -, X57, ⟨Lc58, hQ59, l60, y61, z62⟩, st63⟩ := X42.virtualBackUp hx (x := (⟨"com/example/portunus/portunus/CommandFailure", "getCause", "()Ljava/lang/Throwable;"⟩ : MethodName)) (y := (⟨"java/lang/Throwable", "getCause", "()Ljava/lang/Throwable;"⟩ : MethodName)) hown (mvT hZ (hw _ (List.mem_of_getElem? (i := 77) rfl))) (mvT hZ (hw _ (List.mem_of_getElem? (i := 78) rfl))) (mvT hZ (hw _ (List.mem_of_getElem? (i := 79) rfl))) (by decide) (mvT hZ (hw _ (List.mem_of_getElem? (i := 81) rfl))) (mvT hZ (hw _ (List.mem_of_getElem? (i := 80) rfl))) (own_gcB (W := 0) (n0 := n0) hZ (hw _ (List.mem_of_getElem? (i := 82) rfl)) (hw _ (List.mem_of_getElem? (i := 80) rfl)) (hw _ (List.mem_of_getElem? (i := 21) rfl)) (hw _ (List.mem_of_getElem? (i := 26) rfl)) Uf_ f2_ (by decide) (by decide)) q64a q64c (g := (mkF m 78 #[iv v0, iv v1, iv v2, iv v3, iv (1 : Int32), .val .null, rv f_, rv rU, .unset] [(.ref f_)])) rfl (by rw [hml]; rfl) (Steps.refl _) (argsL := []) (rest := []) (lenOf (by decide +kernel : parseMethodDescriptor "()Ljava/lang/Throwable;" = some ⟨[], some (.object "java/lang/Throwable")⟩) rfl) rfl (by show 2 * 0 + _ ≤ _; exact Nat.le_of_eq rfl) (hb hby at_78) (fun _ _ => ⟨rfl, e51, (by decide : 2 + 0 ≤ _), (by decide : 2759 + 0 ≤ _)⟩)
    dsimp only [Pt.U, Pt.locs, Pt.cells, Pt.slots] at X57 l60 y61 z62 st63 hQ59
    subst l60 y61 z62
    obtain ⟨rfl, N65, e66⟩ := hQ59
    have N67 := Fr.app N52 N65
    refine own_tr (S' := (T53.setTop (mkF m 81 #[iv v0, iv v1, iv v2, iv v3, iv (1 : Int32), .val .null, rv f_, rv rU, .unset] [.null]))) st63 ?_
    refine own_bk (S' := (T53.setTop (mkF m 86 #[iv v0, iv v1, iv v2, iv v3, iv (1 : Int32), .val .null, rv f_, rv rU, .unset] []))) (fun t_ kont => XS.ifnullYes X57.here hx rfl (pc0 := 81) (pc' := 86) rfl (hb hby at_81) rfl (by decide) (by decide) kont) ?_
    refine own_bk (S' := (T53.setTop (mkF m 88 #[iv v0, iv v1, iv v2, iv v3, iv (1 : Int32), .val .null, rv f_, rv rU, .unset] [(.ref f_)]))) (fun t_ kont => XS.aload X57.here hx rfl (hb hby at_86) rfl rfl kont) ?_
    obtain ⟨cqq79, kqq79, q79a, q79b, q79c⟩ := isOf hZ e66 Ef_
    obtain ⟨_, _, ⟨T68, L69, k70, n71⟩, -, X72, ⟨Lc73, hQ74, l75, y76, z77⟩, st78⟩ := X57.virtualBackUp hx (x := (⟨"com/example/portunus/portunus/CommandFailure", "getMessage", "()Ljava/lang/String;"⟩ : MethodName)) (y := (⟨"java/lang/Throwable", "getMessage", "()Ljava/lang/String;"⟩ : MethodName)) hown (mvT hZ (hw _ (List.mem_of_getElem? (i := 83) rfl))) (mvT hZ (hw _ (List.mem_of_getElem? (i := 84) rfl))) (mvT hZ (hw _ (List.mem_of_getElem? (i := 85) rfl))) (by decide) (mvT hZ (hw _ (List.mem_of_getElem? (i := 87) rfl))) (mvT hZ (hw _ (List.mem_of_getElem? (i := 86) rfl))) (backOf (W := 0) (rmMsgN l Z a0 hw [] f_ T2.heap n0 Z16 f1_) hZ (hw _ (List.mem_of_getElem? (i := 88) rfl)) (hw _ (List.mem_of_getElem? (i := 21) rfl)) (by decide) (by decide)) q79a q79c (g := (mkF m 88 #[iv v0, iv v1, iv v2, iv v3, iv (1 : Int32), .val .null, rv f_, rv rU, .unset] [(.ref f_)])) rfl (by rw [hml]; rfl) (Steps.refl _) (argsL := []) (rest := []) (lenOf (by decide +kernel : parseMethodDescriptor "()Ljava/lang/String;" = some ⟨[], some (.object "java/lang/String")⟩) rfl) rfl (by show 2 * 0 + _ ≤ _; exact Nat.le_of_eq rfl) (hb hby at_88) (fun _ _ => ⟨rfl, e66, (by decide : 2 + 0 ≤ _), (by decide : 2759 + 0 ≤ _)⟩)
    dsimp only [Pt.U, Pt.locs, Pt.cells, Pt.slots] at X72 l75 y76 z77 st78 hQ74
    subst l75 y76 z77
    obtain ⟨rfl, N80, e81⟩ := hQ74
    have N82 := Fr.app N67 N80
    refine own_tr (S' := (T68.setTop (mkF m 91 #[iv v0, iv v1, iv v2, iv v3, iv (1 : Int32), .val .null, rv f_, rv rU, .unset] [.null]))) st78 ?_
    refine own_bk (S' := (T68.setTop (mkF m 93 #[iv v0, iv v1, iv v2, iv v3, iv (1 : Int32), .val .null, rv f_, rv rU, .val .null] []))) (fun t_ kont => XS.astore X72.here hx rfl (hb hby at_91) rfl rfl (l' := #[iv v0, iv v1, iv v2, iv v3, iv (1 : Int32), .val .null, rv f_, rv rU, .val .null]) rfl kont) ?_
    refine own_bk (S' := (T68.setTop (mkF m 95 #[iv v0, iv v1, iv v2, iv v3, iv (1 : Int32), .val .null, rv f_, rv rU, .val .null] [(.int (1 : Int32))]))) (fun t_ kont => XS.iload X72.here hx rfl (hb hby at_93) rfl kont) ?_
    refine own_bk (S' := (T68.setTop (mkF m 98 #[iv v0, iv v1, iv v2, iv v3, iv (1 : Int32), .val .null, rv f_, rv rU, .val .null] []))) (fun t_ kont => XS.ifNo X72.here hx rfl (hb hby at_95) rfl ((if0 _ _).trans (feq (by decide : ¬ ((1 : Int32)) = ((0 : Int32)))).1) kont) ?_
    refine own_bk (S' := (T68.setTop (mkF m 100 #[iv v0, iv v1, iv v2, iv v3, iv (1 : Int32), .val .null, rv f_, rv rU, .val .null] [.null]))) (fun t_ kont => XS.aload X72.here hx rfl (hb hby at_98) rfl rfl kont) ?_
    refine own_bk (S' := (T68.setTop (mkF m 103 #[iv v0, iv v1, iv v2, iv v3, iv (1 : Int32), .val .null, rv f_, rv rU, .val .null] []))) (fun t_ kont => XS.ifnonnullNo X72.here hx rfl (hb hby at_100) rfl kont) ?_
    refine own_bk (S' := (T68.setTop (mkF m 104 #[iv v0, iv v1, iv v2, iv v3, iv (1 : Int32), .val .null, rv f_, rv rU, .val .null] [(.int (1 : Int32))]))) (fun t_ kont => XS.iconst X72.here hx rfl (hb hby at_103) kont) ?_
    refine own_bk (S' := (T68.setTop (mkF m 108 #[iv v0, iv v1, iv v2, iv v3, iv (1 : Int32), .val .null, rv f_, rv rU, .val .null] [(.int (1 : Int32))]))) (fun t_ kont => XS.goto X72.here hx rfl (pc0 := 104) (pc' := 108) rfl (hb hby at_104) (by decide) (by decide) kont) ?_
    exact own_retNW hS X72 (by rw [show T68.heap = T2.heap from e81]; exact hk17) hx hlk (t := .boolean) (w := (1 : Int32)) Bd.returns (by simp) (hb hby at_108) rfl ⟨rfl, N82⟩ (by decide) (by decide)
  · refine own_bk (S' := (s₁.setTop (mkF m 13 #[iv v0, iv v1, iv v2, iv v3, .unset, .unset, .unset, .unset, .unset] []))) (fun t_ kont => XS.ifYes X0.here hx rfl (pc0 := 6) (pc' := 13) rfl (hb hby at_6) rfl ((if0 _ _).trans (feq (hc1)).2) (by decide) (by decide) kont) ?_
    refine own_bk (S' := (s₁.setTop (mkF m 14 #[iv v0, iv v1, iv v2, iv v3, .unset, .unset, .unset, .unset, .unset] [(.int (0 : Int32))]))) (fun t_ kont => XS.iconst X0.here hx rfl (hb hby at_13) kont) ?_
    refine own_bk (S' := (s₁.setTop (mkF m 16 #[iv v0, iv v1, iv v2, iv v3, iv (0 : Int32), .unset, .unset, .unset, .unset] []))) (fun t_ kont => XS.istore X0.here hx rfl (hb hby at_14) rfl (l' := #[iv v0, iv v1, iv v2, iv v3, iv (0 : Int32), .unset, .unset, .unset, .unset]) rfl kont) ?_
    refine own_bk (S' := (s₁.setTop (mkF m 18 #[iv v0, iv v1, iv v2, iv v3, iv (0 : Int32), .unset, .unset, .unset, .unset] [(.int (0 : Int32))]))) (fun t_ kont => XS.iload X0.here hx rfl (hb hby at_16) rfl kont) ?_
    refine own_bk (S' := (s₁.setTop (mkF m 25 #[iv v0, iv v1, iv v2, iv v3, iv (0 : Int32), .unset, .unset, .unset, .unset] []))) (fun t_ kont => XS.ifYes X0.here hx rfl (pc0 := 18) (pc' := 25) rfl (hb hby at_18) rfl ((if0 _ _).trans (teq (by decide : ((0 : Int32)) = ((0 : Int32)))).1) (by decide) (by decide) kont) ?_
    refine own_bk (S' := (s₁.setTop (mkF m 26 #[iv v0, iv v1, iv v2, iv v3, iv (0 : Int32), .unset, .unset, .unset, .unset] [(.int v0)]))) (fun t_ kont => XS.iloadN X0.here hx rfl (hb hby at_25) rfl kont) ?_
    refine own_bk (S' := (s₁.setTop (mkF m 27 #[iv v0, iv v1, iv v2, iv v3, iv (0 : Int32), .unset, .unset, .unset, .unset] [(.int v1), (.int v0)]))) (fun t_ kont => XS.iloadN X0.here hx rfl (hb hby at_26) rfl kont) ?_
    refine own_bk (S' := (s₁.setTop (mkF m 28 #[iv v0, iv v1, iv v2, iv v3, iv (0 : Int32), .unset, .unset, .unset, .unset] [(.int v2), (.int v1), (.int v0)]))) (fun t_ kont => XS.iloadN X0.here hx rfl (hb hby at_27) rfl kont) ?_
    refine own_bk (S' := (s₁.setTop (mkF m 29 #[iv v0, iv v1, iv v2, iv v3, iv (0 : Int32), .unset, .unset, .unset, .unset] [(.int v3), (.int v2), (.int v1), (.int v0)]))) (fun t_ kont => XS.iloadN X0.here hx rfl (hb hby at_28) rfl kont) ?_
    obtain ⟨_, _, ⟨T83, L84, k85, n86⟩, -, X87, hS2_, hgr_, ⟨Lc88, hQ89, l90, y91, z92⟩, st93⟩ := callSS X0 hx (y := (⟨"com/example/portunus/portunus/CommandFailureUsagePinLaw", "draw", "(IIII)Ljava/lang/String;"⟩ : MethodName)) hown (mvT hZ (hw _ (List.mem_of_getElem? (i := 89) rfl))) (mvT hZ (hw _ (List.mem_of_getElem? (i := 90) rfl))) (mvT hZ (hw _ (List.mem_of_getElem? (i := 91) rfl))) (mvT hZ (hw _ (List.mem_of_getElem? (i := 92) rfl))) (by decide) (own_backH (W := 0) (rmDraw l Z a0 hw [] v0 v1 v2 v3 cz h0 n0 Z0 O SU) hZ (hw _ (List.mem_of_getElem? (i := 92) rfl)) (hw _ (List.mem_of_getElem? (i := 91) rfl)) (by decide) (by decide) hEL hCH) (g := (mkF m 29 #[iv v0, iv v1, iv v2, iv v3, iv (0 : Int32), .unset, .unset, .unset, .unset] [(.int v3), (.int v2), (.int v1), (.int v0)])) rfl (by rw [hml]; rfl) (argsL := [(.int v0), (.int v1), (.int v2), (.int v3)]) (rest := []) (lenOf (by decide +kernel : parseMethodDescriptor "(IIII)Ljava/lang/String;" = some ⟨[.int, .int, .int, .int], some (.object "java/lang/String")⟩) rfl) rfl (by show 2 * 0 + _ ≤ _; exact Nat.le_of_eq rfl) (hb hby at_29) (fun _ _ => ⟨rfl, e0, (by decide : 0 + 8 ≤ _), (by decide : 0 + 64 ≤ _)⟩)
    dsimp only [Pt.U, Pt.locs, Pt.cells, Pt.slots] at X87 l90 y91 z92 st93 hQ89 hS2_ hgr_
    subst l90 y91 z92
    obtain ⟨X94, hS, hZ, hown⟩ := rebS hS (by rw [show s₁.heap = h0 from e0]; exact hk0) X87 hS2_ hgr_ hZ hown
    obtain ⟨N95, O_, Z_, mg_, rfl, E_⟩ := hQ89
    have N97 := Fr.app N0 N95
    refine own_tr (S' := (T83.setTop (mkF m 32 #[iv v0, iv v1, iv v2, iv v3, iv (0 : Int32), .unset, .unset, .unset, .unset] [(.ref mg_)]))) st93 ?_
    refine own_bk (S' := (T83.setTop (mkF m 34 #[iv v0, iv v1, iv v2, iv v3, iv (0 : Int32), rv mg_, .unset, .unset, .unset] []))) (fun t_ kont => XS.astore X94.here hx rfl (hb hby at_32) rfl rfl (l' := #[iv v0, iv v1, iv v2, iv v3, iv (0 : Int32), rv mg_, .unset, .unset, .unset]) rfl kont) ?_
    refine own_bk (S' := (T83.setTop (mkF m 36 #[iv v0, iv v1, iv v2, iv v3, iv (0 : Int32), rv mg_, .unset, .unset, .unset] [(.ref mg_)]))) (fun t_ kont => XS.aload X94.here hx rfl (hb hby at_34) rfl rfl kont) ?_
    obtain ⟨_, _, ⟨T98, L99, k100, n101⟩, -, X102, ⟨Lc103, hQ104, l105, y106, z107⟩, st108⟩ := Jvm.LawKit.callS X94 hx (y := (⟨"com/example/portunus/portunus/CommandFailure", "usage", "(Ljava/lang/String;)Lcom/example/portunus/portunus/CommandFailure;"⟩ : MethodName)) hown (mvT hZ (hw _ (List.mem_of_getElem? (i := 0) rfl))) (mvT hZ (hw _ (List.mem_of_getElem? (i := 1) rfl))) (mvT hZ (hw _ (List.mem_of_getElem? (i := 2) rfl))) (mvT hZ (hw _ (List.mem_of_getElem? (i := 3) rfl))) (by decide) (backOfKL (W := 0) (rmUseR l Z a0 hw [] rU rS rL mg_ T83.heap n0 Z_ hl O_ SX SY SR) hZ (hw _ (List.mem_of_getElem? (i := 3) rfl)) (hw _ (List.mem_of_getElem? (i := 2) rfl)) (by decide) (by decide) (Vm.MethodsKnown.alikeC hS.1.alike hK.1) (Vm.FramesKnown.alikeC hS.1.alike hK.2)) (g := (mkF m 36 #[iv v0, iv v1, iv v2, iv v3, iv (0 : Int32), rv mg_, .unset, .unset, .unset] [(.ref mg_)])) rfl (by rw [hml]; rfl) (argsL := [(.ref mg_)]) (rest := []) (lenOf (by decide +kernel : parseMethodDescriptor "(Ljava/lang/String;)Lcom/example/portunus/portunus/CommandFailure;" = some ⟨[(.object "java/lang/String")], some (.object "com/example/portunus/portunus/CommandFailure")⟩) rfl) rfl (by show 2 * 0 + _ ≤ _; exact Nat.le_of_eq rfl) (hb hby at_36) (fun _ _ => ⟨rfl, rfl, (by decide : 8 + 2 ≤ _), (by decide : 64 + 2759 ≤ _)⟩)
    dsimp only [Pt.U, Pt.locs, Pt.cells, Pt.slots] at X102 l105 y106 z107 st108 hQ104
    subst l105 y106 z107
    obtain ⟨N109, O2_, K2_, f_, rfl, Ef_, Uf_, f0_, f1_, f2_⟩ := hQ104
    have N111 := Fr.app N97 N109
    have E112 := (E_.keep K2_)
    have Z113 := Nat.le_trans Z_ K2_.1
    have hk114 := Nat.le_trans (Nat.le_refl _) K2_.1
    have O115 := O_.keep K2_ all0
    refine own_bk (S' := (T98.setTop (mkF m 39 #[iv v0, iv v1, iv v2, iv v3, iv (0 : Int32), rv mg_, .unset, .unset, .unset] [(.ref f_)]))) st108 ?_
    refine own_bk (S' := (T98.setTop (mkF m 41 #[iv v0, iv v1, iv v2, iv v3, iv (0 : Int32), rv mg_, rv f_, .unset, .unset] []))) (fun t_ kont => XS.astore X102.here hx rfl (hb hby at_39) rfl rfl (l' := #[iv v0, iv v1, iv v2, iv v3, iv (0 : Int32), rv mg_, rv f_, .unset, .unset]) rfl kont) ?_
    refine own_bk (S' := (T98.setTop (mkF m 43 #[iv v0, iv v1, iv v2, iv v3, iv (0 : Int32), rv mg_, rv f_, .unset, .unset] [(.ref f_)]))) (fun t_ kont => XS.aload X102.here hx rfl (hb hby at_41) rfl rfl kont) ?_
    refine own_bk (S' := (T98.setTop (mkF m 48 #[iv v0, iv v1, iv v2, iv v3, iv (0 : Int32), rv mg_, rv f_, .unset, .unset] []))) (fun t_ kont => XS.ifnonnullYes X102.here hx rfl (pc0 := 43) (pc' := 48) rfl (hb hby at_43) rfl (by decide) (by decide) kont) ?_
    refine own_bk (S' := (T98.setTop (mkF m 50 #[iv v0, iv v1, iv v2, iv v3, iv (0 : Int32), rv mg_, rv f_, .unset, .unset] [(.ref f_)]))) (fun t_ kont => XS.aload X102.here hx rfl (hb hby at_48) rfl rfl kont) ?_
    obtain ⟨cqq127, kqq127, q127a, q127b, q127c⟩ := isOf hZ rfl Ef_
    obtain ⟨_, _, ⟨T116, L117, k118, n119⟩, -, X120, ⟨Lc121, hQ122, l123, y124, z125⟩, st126⟩ := X102.virtualBack hx (y := (⟨"com/example/portunus/portunus/CommandFailure", "exitCode", "()Lcom/example/portunus/portunus/ExitCode;"⟩ : MethodName)) (z := (⟨"com/example/portunus/portunus/CommandFailure", "exitCode", "()Lcom/example/portunus/portunus/ExitCode;"⟩ : MethodName)) hown (mvT hZ (hw _ (List.mem_of_getElem? (i := 64) rfl))) (mvT hZ (hw _ (List.mem_of_getElem? (i := 65) rfl))) (notFace_of_selects (args := #[]) (mvT hZ (hw _ (List.mem_of_getElem? (i := 67) rfl)))) (mvT hZ (hw _ (List.mem_of_getElem? (i := 67) rfl))) (mvT hZ (hw _ (List.mem_of_getElem? (i := 66) rfl))) (by decide) (backOf (W := 0) (rmExitR l Z a0 hw [] f_ rU T98.heap n0 Z113 f0_) hZ (hw _ (List.mem_of_getElem? (i := 68) rfl)) (hw _ (List.mem_of_getElem? (i := 2) rfl)) (by decide) (by decide)) q127a q127c (g := (mkF m 50 #[iv v0, iv v1, iv v2, iv v3, iv (0 : Int32), rv mg_, rv f_, .unset, .unset] [(.ref f_)])) rfl (by rw [hml]; rfl) (Steps.refl _) (argsL := []) (rest := []) (lenOf (by decide +kernel : parseMethodDescriptor "()Lcom/example/portunus/portunus/ExitCode;" = some ⟨[], some (.object "com/example/portunus/portunus/ExitCode")⟩) rfl) rfl (by show 2 * 0 + _ ≤ _; exact Nat.le_of_eq rfl) (hb hby at_50) (fun _ _ => ⟨rfl, rfl, (by decide : 10 + 0 ≤ _), (by decide : 2823 + 0 ≤ _)⟩)
    dsimp only [Pt.U, Pt.locs, Pt.cells, Pt.slots] at X120 l123 y124 z125 st126 hQ122
    subst l123 y124 z125
    obtain ⟨rfl, N128, e129⟩ := hQ122
    have N130 := Fr.app N111 N128
    refine own_tr (S' := (T116.setTop (mkF m 53 #[iv v0, iv v1, iv v2, iv v3, iv (0 : Int32), rv mg_, rv f_, .unset, .unset] [(.ref rU)]))) st126 ?_
    refine own_bk (S' := (T116.setTop (mkF m 55 #[iv v0, iv v1, iv v2, iv v3, iv (0 : Int32), rv mg_, rv f_, rv rU, .unset] []))) (fun t_ kont => XS.astore X120.here hx rfl (hb hby at_53) rfl rfl (l' := #[iv v0, iv v1, iv v2, iv v3, iv (0 : Int32), rv mg_, rv f_, rv rU, .unset]) rfl kont) ?_
    refine own_bk (S' := (T116.setTop (mkF m 57 #[iv v0, iv v1, iv v2, iv v3, iv (0 : Int32), rv mg_, rv f_, rv rU, .unset] [(.ref rU)]))) (fun t_ kont => XS.aload X120.here hx rfl (hb hby at_55) rfl rfl kont) ?_
    obtain ⟨T131, X132, e133, st134⟩ := getS2 X120 hx hZ hown (host := "") (Or.inl (hw _ (List.mem_of_getElem? (i := 69) rfl))) Via.refl e129 (SR.ext O2_.2) (g := (mkF m 57 #[iv v0, iv v1, iv v2, iv v3, iv (0 : Int32), rv mg_, rv f_, rv rU, .unset] [(.ref rU)])) rfl (hb hby at_57)
    refine own_bk (S' := (T131.setTop (mkF m 60 #[iv v0, iv v1, iv v2, iv v3, iv (0 : Int32), rv mg_, rv f_, rv rU, .unset] [(.ref rU), (.ref rU)]))) st134 ?_
    refine own_bk (S' := (T131.setTop (mkF m 65 #[iv v0, iv v1, iv v2, iv v3, iv (0 : Int32), rv mg_, rv f_, rv rU, .unset] []))) (fun t_ kont => Jvm.RoadKit.acmp (g := (mkF m 60 #[iv v0, iv v1, iv v2, iv v3, iv (0 : Int32), rv mg_, rv f_, rv rU, .unset] [(.ref rU), (.ref rU)])) X132 hx rfl rfl rfl (pc0 := 60) (pc' := 65) (same := true) rfl (hb hby at_60) rfl (decide_eq_true rfl) (by decide) (by decide) kont) ?_
    refine own_bk (S' := (T131.setTop (mkF m 67 #[iv v0, iv v1, iv v2, iv v3, iv (0 : Int32), rv mg_, rv f_, rv rU, .unset] [(.ref rU)]))) (fun t_ kont => XS.aload X132.here hx rfl (hb hby at_65) rfl rfl kont) ?_
    obtain ⟨cqq146, kqq146, q146a, q146b, q146c⟩ := isOf hZ e133 (ER.ext O2_.2)
    obtain ⟨_, _, ⟨T135, L136, k137, n138⟩, -, X139, ⟨Lc140, hQ141, l142, y143, z144⟩, st145⟩ := X132.virtualBack hx (y := (⟨"com/example/portunus/portunus/ExitCode", "code", "()I"⟩ : MethodName)) (z := (⟨"com/example/portunus/portunus/ExitCode", "code", "()I"⟩ : MethodName)) hown (mvT hZ (hw _ (List.mem_of_getElem? (i := 70) rfl))) (mvT hZ (hw _ (List.mem_of_getElem? (i := 71) rfl))) (notFace_of_selects (args := #[]) (mvT hZ (hw _ (List.mem_of_getElem? (i := 73) rfl)))) (mvT hZ (hw _ (List.mem_of_getElem? (i := 73) rfl))) (mvT hZ (hw _ (List.mem_of_getElem? (i := 72) rfl))) (by decide) (backOf (W := 0) (rmCodeI l Z a0 hw [] rU T98.heap n0 Z113 (FR.ext O2_.2)) hZ (hw _ (List.mem_of_getElem? (i := 74) rfl)) (hw _ (List.mem_of_getElem? (i := 7) rfl)) (by decide) (by decide)) q146a q146c (g := (mkF m 67 #[iv v0, iv v1, iv v2, iv v3, iv (0 : Int32), rv mg_, rv f_, rv rU, .unset] [(.ref rU)])) rfl (by rw [hml]; rfl) (Steps.refl _) (argsL := []) (rest := []) (lenOf (by decide +kernel : parseMethodDescriptor "()I" = some ⟨[], some .int⟩) rfl) rfl (by show 2 * 0 + _ ≤ _; exact Nat.le_of_eq rfl) (hb hby at_67) (fun _ _ => ⟨rfl, e133, (by decide : 10 + 0 ≤ _), (by decide : 2823 + 0 ≤ _)⟩)
    dsimp only [Pt.U, Pt.locs, Pt.cells, Pt.slots] at X139 l142 y143 z144 st145 hQ141
    subst l142 y143 z144
    obtain ⟨rfl, N147, e148⟩ := hQ141
    have N149 := Fr.app N130 N147
    refine own_tr (S' := (T135.setTop (mkF m 70 #[iv v0, iv v1, iv v2, iv v3, iv (0 : Int32), rv mg_, rv f_, rv rU, .unset] [(.int (2 : Int32))]))) st145 ?_
    refine own_bk (S' := (T135.setTop (mkF m 71 #[iv v0, iv v1, iv v2, iv v3, iv (0 : Int32), rv mg_, rv f_, rv rU, .unset] [(.int (2 : Int32)), (.int (2 : Int32))]))) (fun t_ kont => XS.iconst X139.here hx rfl (hb hby at_70) kont) ?_
    refine own_bk (S' := (T135.setTop (mkF m 76 #[iv v0, iv v1, iv v2, iv v3, iv (0 : Int32), rv mg_, rv f_, rv rU, .unset] []))) (fun t_ kont => XS.icmpYes X139.here hx rfl (pc0 := 71) (pc' := 76) rfl (hb hby at_71) rfl (teq (by decide : ((2 : Int32)) = ((2 : Int32)))).1 (by decide) (by decide) kont) ?_
    refine own_bk (S' := (T135.setTop (mkF m 78 #[iv v0, iv v1, iv v2, iv v3, iv (0 : Int32), rv mg_, rv f_, rv rU, .unset] [(.ref f_)]))) (fun t_ kont => XS.aload X139.here hx rfl (hb hby at_76) rfl rfl kont) ?_
    obtain ⟨cqq161, kqq161, q161a, q161b, q161c⟩ := isOf hZ e148 Ef_
    obtain ⟨_, _, ⟨T150, L151, k152, n153⟩, -, X154, ⟨Lc155, hQ156, l157, y158, z159⟩, st160⟩ := X139.virtualBackUp hx (x := (⟨"com/example/portunus/portunus/CommandFailure", "getCause", "()Ljava/lang/Throwable;"⟩ : MethodName)) (y := (⟨"java/lang/Throwable", "getCause", "()Ljava/lang/Throwable;"⟩ : MethodName)) hown (mvT hZ (hw _ (List.mem_of_getElem? (i := 77) rfl))) (mvT hZ (hw _ (List.mem_of_getElem? (i := 78) rfl))) (mvT hZ (hw _ (List.mem_of_getElem? (i := 79) rfl))) (by decide) (mvT hZ (hw _ (List.mem_of_getElem? (i := 81) rfl))) (mvT hZ (hw _ (List.mem_of_getElem? (i := 80) rfl))) (own_gcB (W := 0) (n0 := n0) hZ (hw _ (List.mem_of_getElem? (i := 82) rfl)) (hw _ (List.mem_of_getElem? (i := 80) rfl)) (hw _ (List.mem_of_getElem? (i := 21) rfl)) (hw _ (List.mem_of_getElem? (i := 26) rfl)) Uf_ f2_ (by decide) (by decide)) q161a q161c (g := (mkF m 78 #[iv v0, iv v1, iv v2, iv v3, iv (0 : Int32), rv mg_, rv f_, rv rU, .unset] [(.ref f_)])) rfl (by rw [hml]; rfl) (Steps.refl _) (argsL := []) (rest := []) (lenOf (by decide +kernel : parseMethodDescriptor "()Ljava/lang/Throwable;" = some ⟨[], some (.object "java/lang/Throwable")⟩) rfl) rfl (by show 2 * 0 + _ ≤ _; exact Nat.le_of_eq rfl) (hb hby at_78) (fun _ _ => ⟨rfl, e148, (by decide : 10 + 0 ≤ _), (by decide : 2823 + 0 ≤ _)⟩)
    dsimp only [Pt.U, Pt.locs, Pt.cells, Pt.slots] at X154 l157 y158 z159 st160 hQ156
    subst l157 y158 z159
    obtain ⟨rfl, N162, e163⟩ := hQ156
    have N164 := Fr.app N149 N162
    refine own_tr (S' := (T150.setTop (mkF m 81 #[iv v0, iv v1, iv v2, iv v3, iv (0 : Int32), rv mg_, rv f_, rv rU, .unset] [.null]))) st160 ?_
    refine own_bk (S' := (T150.setTop (mkF m 86 #[iv v0, iv v1, iv v2, iv v3, iv (0 : Int32), rv mg_, rv f_, rv rU, .unset] []))) (fun t_ kont => XS.ifnullYes X154.here hx rfl (pc0 := 81) (pc' := 86) rfl (hb hby at_81) rfl (by decide) (by decide) kont) ?_
    refine own_bk (S' := (T150.setTop (mkF m 88 #[iv v0, iv v1, iv v2, iv v3, iv (0 : Int32), rv mg_, rv f_, rv rU, .unset] [(.ref f_)]))) (fun t_ kont => XS.aload X154.here hx rfl (hb hby at_86) rfl rfl kont) ?_
    obtain ⟨cqq176, kqq176, q176a, q176b, q176c⟩ := isOf hZ e163 Ef_
    obtain ⟨_, _, ⟨T165, L166, k167, n168⟩, -, X169, ⟨Lc170, hQ171, l172, y173, z174⟩, st175⟩ := X154.virtualBackUp hx (x := (⟨"com/example/portunus/portunus/CommandFailure", "getMessage", "()Ljava/lang/String;"⟩ : MethodName)) (y := (⟨"java/lang/Throwable", "getMessage", "()Ljava/lang/String;"⟩ : MethodName)) hown (mvT hZ (hw _ (List.mem_of_getElem? (i := 83) rfl))) (mvT hZ (hw _ (List.mem_of_getElem? (i := 84) rfl))) (mvT hZ (hw _ (List.mem_of_getElem? (i := 85) rfl))) (by decide) (mvT hZ (hw _ (List.mem_of_getElem? (i := 87) rfl))) (mvT hZ (hw _ (List.mem_of_getElem? (i := 86) rfl))) (backOf (W := 0) (rmMsgR l Z a0 hw [] f_ mg_ T98.heap n0 Z113 f1_) hZ (hw _ (List.mem_of_getElem? (i := 88) rfl)) (hw _ (List.mem_of_getElem? (i := 21) rfl)) (by decide) (by decide)) q176a q176c (g := (mkF m 88 #[iv v0, iv v1, iv v2, iv v3, iv (0 : Int32), rv mg_, rv f_, rv rU, .unset] [(.ref f_)])) rfl (by rw [hml]; rfl) (Steps.refl _) (argsL := []) (rest := []) (lenOf (by decide +kernel : parseMethodDescriptor "()Ljava/lang/String;" = some ⟨[], some (.object "java/lang/String")⟩) rfl) rfl (by show 2 * 0 + _ ≤ _; exact Nat.le_of_eq rfl) (hb hby at_88) (fun _ _ => ⟨rfl, e163, (by decide : 10 + 0 ≤ _), (by decide : 2823 + 0 ≤ _)⟩)
    dsimp only [Pt.U, Pt.locs, Pt.cells, Pt.slots] at X169 l172 y173 z174 st175 hQ171
    subst l172 y173 z174
    obtain ⟨rfl, N177, e178⟩ := hQ171
    have N179 := Fr.app N164 N177
    refine own_tr (S' := (T165.setTop (mkF m 91 #[iv v0, iv v1, iv v2, iv v3, iv (0 : Int32), rv mg_, rv f_, rv rU, .unset] [(.ref mg_)]))) st175 ?_
    refine own_bk (S' := (T165.setTop (mkF m 93 #[iv v0, iv v1, iv v2, iv v3, iv (0 : Int32), rv mg_, rv f_, rv rU, rv mg_] []))) (fun t_ kont => XS.astore X169.here hx rfl (hb hby at_91) rfl rfl (l' := #[iv v0, iv v1, iv v2, iv v3, iv (0 : Int32), rv mg_, rv f_, rv rU, rv mg_]) rfl kont) ?_
    refine own_bk (S' := (T165.setTop (mkF m 95 #[iv v0, iv v1, iv v2, iv v3, iv (0 : Int32), rv mg_, rv f_, rv rU, rv mg_] [(.int (0 : Int32))]))) (fun t_ kont => XS.iload X169.here hx rfl (hb hby at_93) rfl kont) ?_
    refine own_bk (S' := (T165.setTop (mkF m 109 #[iv v0, iv v1, iv v2, iv v3, iv (0 : Int32), rv mg_, rv f_, rv rU, rv mg_] []))) (fun t_ kont => XS.ifYes X169.here hx rfl (pc0 := 95) (pc' := 109) rfl (hb hby at_95) rfl ((if0 _ _).trans (teq (by decide : ((0 : Int32)) = ((0 : Int32)))).1) (by decide) (by decide) kont) ?_
    refine own_bk (S' := (T165.setTop (mkF m 111 #[iv v0, iv v1, iv v2, iv v3, iv (0 : Int32), rv mg_, rv f_, rv rU, rv mg_] [(.ref mg_)]))) (fun t_ kont => XS.aload X169.here hx rfl (hb hby at_109) rfl rfl kont) ?_
    refine own_bk (S' := (T165.setTop (mkF m 114 #[iv v0, iv v1, iv v2, iv v3, iv (0 : Int32), rv mg_, rv f_, rv rU, rv mg_] []))) (fun t_ kont => XS.ifnullNo X169.here hx rfl (hb hby at_111) rfl kont) ?_
    refine own_bk (S' := (T165.setTop (mkF m 116 #[iv v0, iv v1, iv v2, iv v3, iv (0 : Int32), rv mg_, rv f_, rv rU, rv mg_] [(.ref mg_)]))) (fun t_ kont => XS.aload X169.here hx rfl (hb hby at_114) rfl rfl kont) ?_
    refine own_bk (S' := (T165.setTop (mkF m 118 #[iv v0, iv v1, iv v2, iv v3, iv (0 : Int32), rv mg_, rv f_, rv rU, rv mg_] [(.ref mg_), (.ref mg_)]))) (fun t_ kont => XS.aload X169.here hx rfl (hb hby at_116) rfl rfl kont) ?_
    obtain ⟨cqq191, kqq191, q191a, q191b, q191c⟩ := isOf hZ e178 E112
    obtain ⟨_, _, ⟨T180, L181, k182, n183⟩, -, X184, ⟨Lc185, hQ186, l187, y188, z189⟩, st190⟩ := X169.virtualBack hx (y := (⟨"java/lang/String", "equals", "(Ljava/lang/Object;)Z"⟩ : MethodName)) (z := (⟨"java/lang/String", "equals", "(Ljava/lang/Object;)Z"⟩ : MethodName)) hown (mvT hZ (hw _ (List.mem_of_getElem? (i := 114) rfl))) (mvT hZ (hw _ (List.mem_of_getElem? (i := 115) rfl))) (notFace_of_selects (args := #[]) (mvT hZ (hw _ (List.mem_of_getElem? (i := 117) rfl)))) (mvT hZ (hw _ (List.mem_of_getElem? (i := 117) rfl))) (mvT hZ (hw _ (List.mem_of_getElem? (i := 116) rfl))) (by decide) (backOf (W := 0) (rmEq l Z a0 hw [] mg_ T98.heap n0 Z113) hZ (hw _ (List.mem_of_getElem? (i := 118) rfl)) (hw _ (List.mem_of_getElem? (i := 96) rfl)) (by decide) (by decide)) q191a q191c (g := (mkF m 118 #[iv v0, iv v1, iv v2, iv v3, iv (0 : Int32), rv mg_, rv f_, rv rU, rv mg_] [(.ref mg_), (.ref mg_)])) rfl (by rw [hml]; rfl) (Steps.refl _) (argsL := [(.ref mg_)]) (rest := []) (lenOf (by decide +kernel : parseMethodDescriptor "(Ljava/lang/Object;)Z" = some ⟨[(.object "java/lang/Object")], some .boolean⟩) rfl) rfl (by show 2 * 0 + _ ≤ _; exact Nat.le_of_eq rfl) (hb hby at_118) (fun _ _ => ⟨rfl, e178, (by decide : 10 + 0 ≤ _), (by decide : 2823 + 0 ≤ _)⟩)
    dsimp only [Pt.U, Pt.locs, Pt.cells, Pt.slots] at X184 l187 y188 z189 st190 hQ186
    subst l187 y188 z189
    obtain ⟨rfl, N192, e193⟩ := hQ186
    have N194 := Fr.app N179 N192
    refine own_tr (S' := (T180.setTop (mkF m 121 #[iv v0, iv v1, iv v2, iv v3, iv (0 : Int32), rv mg_, rv f_, rv rU, rv mg_] [(.int (1 : Int32))]))) st190 ?_
    refine own_bk (S' := (T180.setTop (mkF m 124 #[iv v0, iv v1, iv v2, iv v3, iv (0 : Int32), rv mg_, rv f_, rv rU, rv mg_] []))) (fun t_ kont => XS.ifNo X184.here hx rfl (hb hby at_121) rfl ((if0 _ _).trans (feq (by decide : ¬ ((1 : Int32)) = ((0 : Int32)))).1) kont) ?_
    refine own_bk (S' := (T180.setTop (mkF m 125 #[iv v0, iv v1, iv v2, iv v3, iv (0 : Int32), rv mg_, rv f_, rv rU, rv mg_] [(.int (1 : Int32))]))) (fun t_ kont => XS.iconst X184.here hx rfl (hb hby at_124) kont) ?_
    refine own_bk (S' := (T180.setTop (mkF m 129 #[iv v0, iv v1, iv v2, iv v3, iv (0 : Int32), rv mg_, rv f_, rv rU, rv mg_] [(.int (1 : Int32))]))) (fun t_ kont => XS.goto X184.here hx rfl (pc0 := 125) (pc' := 129) rfl (hb hby at_125) (by decide) (by decide) kont) ?_
    exact own_retNW hS X184 (by rw [show T180.heap = T98.heap from e193]; exact hk114) hx hlk (t := .boolean) (w := (1 : Int32)) Bd.returns (by simp) (hb hby at_129) rfl ⟨rfl, N194⟩ (by decide) (by decide)
set_option maxRecDepth 65536 in
set_option maxHeartbeats 40000000 in
theorem comes_1 {Post : Tables → Env → Array Value → State → Outcome → State → Prop} (hpost : ∀ tb e args s v u, (limb_1_1.after args s (.returned v) u = true ∧ limb_1_2.after args s (.returned v) u = true ∧ True) → ReturnedEndW s (.returned v) u (Jvm.fieldLocs frame_1_writes args s ++ Jvm.arrayLocs frame_1_arrays args s ++ Jvm.staticLocs frame_1_statics s) 24 6656 → Post tb e args s (.returned v) u) :
    ArmFor flags0 classFile x code maxLocals ret World_1 tables_1 room_1 Calls_1 rest_1 Pre_1 Post := by
  intro l hfl _ _ p e ha hc hk s m args below hf hA hF happ hP
  obtain ⟨hcalls, hrest, hpre⟩ := hP
  obtain ⟨-, -, -, hnamed, -, -, -, hat⟩ := (Spec.applies_iff hf).mp happ
  obtain ⟨hg, hn⟩ := and_e (Cond.before_iff.mp (show (Jvm.Cond.and given_1 narrow_1).before args s = true from hpre))
  obtain ⟨g0, hg⟩ := and_e hg
  obtain ⟨g1, hg⟩ := and_e hg
  obtain ⟨g2, hg⟩ := and_e hg
  obtain ⟨g3, hg⟩ := and_e hg
  have g4 := hg
  obtain ⟨w0, w1, w2, w3, rfl⟩ : ∃ w0 w1 w2 w3 : Value, args = #[w0, w1, w2, w3] := by
    have hs : args.size = 4 := by simpa [Cond.value, given_1] using g0
    obtain ⟨L⟩ := args
    match L, hs with
    | [w0, w1, w2, w3], _ => exact ⟨w0, w1, w2, w3, rfl⟩
  have hw := fun d (hd : d ∈ tables_1) => atoms_spec (ws := Jvm.Cond.code x code maxLocals ret :: tables_1) hat d (List.mem_cons_of_mem _ hd)
  obtain ⟨hsets, hown0⟩ := atoms_of _ (rest_1_c_eq ▸ (show rest_1_c.before _ s = true from hrest))
  have hfit : Fit s := fun {y c} hc i hi => by
    obtain ⟨ha, rfl⟩ := Array.getElem?_eq_some_iff.mp hc
    have q := List.all_eq_true.mp ((Array.all_eq_true_iff_forall_mem.mp hF) _ (Array.getElem_mem ha)) i (List.mem_range.mpr hi)
    simpa [Array.getElem?_eq_getElem hi] using q
  obtain ⟨v0, ev0⟩ := is_v g1
  obtain rfl : w0 = (.int v0) := Option.some.inj ev0
  obtain ⟨v1, ev1⟩ := is_v g2
  obtain rfl : w1 = (.int v1) := Option.some.inj ev1
  obtain ⟨v2, ev2⟩ := is_v g3
  obtain rfl : w2 = (.int v2) := Option.some.inj ev2
  obtain ⟨v3, ev3⟩ := is_v g4
  obtain rfl : w3 = (.int v3) := Option.some.inj ev3
  have n5 := not_v (Cond.before_iff.mp (hsets _ (List.mem_of_getElem? (i := 22) rfl)))
  obtain ⟨cz, ecz⟩ := is_v (Cond.before_iff.mp (hsets _ (List.mem_of_getElem? (i := 21) rfl)))
  have SC : Sta s s.heap "java/lang/String" "COMPACT_STRINGS" "Z" (.int cz) := Sta.start ecz (Or.inl (hsets _ (List.mem_of_getElem? (i := 20) rfl)))
  have hcz : ¬ (cz = (0 : Int32)) := gotF (Cond.eq_ints ecz (Term.int_eval (0))) n5
  have SA := Sta.start (own_staInt (Cond.before_iff.mp (hsets _ (List.mem_of_getElem? (i := 32) rfl)))) (Or.inl (hsets _ (List.mem_of_getElem? (i := 31) rfl)))
  have SHi := Sta.start (own_staInt (Cond.before_iff.mp (hsets _ (List.mem_of_getElem? (i := 35) rfl)))) (Or.inl (hsets _ (List.mem_of_getElem? (i := 34) rfl)))
  have SLo := Sta.start (own_staInt (Cond.before_iff.mp (hsets _ (List.mem_of_getElem? (i := 38) rfl)))) (Or.inl (hsets _ (List.mem_of_getElem? (i := 37) rfl)))
  have SU : own_St s cz := ⟨SC, hcz, SA, SHi, SLo⟩
  obtain ⟨c0, c1⟩ := and_e hn
  obtain ⟨rU, evU⟩ := exa_v c0
  have SR : Sta s s.heap "com/example/portunus/portunus/ExitCode" "USAGE" "Lcom/example/portunus/portunus/ExitCode;" (.ref rU) := Sta.start evU (Or.inr ⟨(hw _ (List.mem_of_getElem? (i := 7) rfl)), (hw _ (List.mem_of_getElem? (i := 8) rfl))⟩)
  have ER : Exa s s.heap rU "com/example/portunus/portunus/ExitCode" := Exa.start evU c0
  have FR : Fld s s.heap rU "com/example/portunus/portunus/ExitCode" "code" "I" (.int 2) := Fld.start (own_fldInt c1 evU)
  have hl : l.stackTraces = true := by rw [Launch.stackTraces, hfl]; decide +kernel
  have cX := Cond.before_iff.mp (hsets _ (List.mem_of_getElem? (i := 8) rfl))
  obtain ⟨rS, evS⟩ := arr_v cX
  have SX : Sta s s.heap "java/lang/Throwable" "UNASSIGNED_STACK" "[Ljava/lang/StackTraceElement;" (.ref rS) := Sta.start evS (Or.inl (hsets _ (List.mem_of_getElem? (i := 6) rfl)))
  have cY := Cond.before_iff.mp (hsets _ (List.mem_of_getElem? (i := 13) rfl))
  obtain ⟨rL, evL⟩ := exa_v cY
  have SY : Sta s s.heap "java/lang/Throwable" "SUPPRESSED_SENTINEL" "Ljava/util/List;" (.ref rL) := Sta.start evL (Or.inl (hsets _ (List.mem_of_getElem? (i := 11) rfl)))
  have hEL : EW s _ own_EL := EW.cons (hw _ (List.mem_of_getElem? (i := 106) rfl)) (by decide) EW.nil
  have hCH : CHv s own_EL s.vm s.heap := CHv.start hEL (fun q hq => hcalls.2.2.1 q hq) (hsets _ (List.mem_of_getElem? (i := 22) rfl)) (hw _ (List.mem_of_getElem? (i := 107) rfl)) (hw _ (List.mem_of_getElem? (i := 95) rfl))
  obtain ⟨n, o, h1, h2, h3, _, L, rfl, ⟨rfl, N⟩, hq⟩ := rm0 l s _ hw tables_1 v0 v1 v2 v3 cz rU rS rL s.heap s.heap.size (Nat.le_refl _) hl (Old.start s) SX SY SU SR ER FR p e ha hc hk s m _ below hf ((Spec.applies_iff_loose hf).mp happ).1 ⟨rfl, State.Warmed39.refl s, rfl, hCH⟩ ⟨MethodsKnown_of_tablesKnown hcalls.2.1, FramesKnown_of_framesKnown hcalls.1 hf⟩
  refine ⟨n, _, h1, h2, h3, hpost _ _ _ _ _ _ ⟨Cond.after_iff.mpr rfl, Cond.after_iff.mpr (eq_i res_at (Term.int_eval (1)) rfl), trivial⟩ ⟨hq.1, hq.2.1, hq.2.2.1, (hq.2.2.2.sift fun y hy => Or.inr (N y hy)).mono (by decide) (by decide)⟩⟩
theorem main_1_1 : Claimed_1_1 := comes_1 fun _ _ _ _ _ _ h hF => ⟨h.1, hF⟩
theorem main_1_2 : Claimed_1_2 := comes_1 fun _ _ _ _ _ _ h hF => ⟨h.2.1, hF⟩
end Jvm.Pilot.@@N@@
namespace Jvm.Pilot.@@N@@
open Jvm Jvm.ClassFile Sem Op Lib Jvm.Free Jvm.Stand Jvm.Pilot.@@N@@.Jvm.D
/-! MADE BY PROGRAM (witnessworld.py) out of the Statement's table words and the real class files: 37 classes; the members and pool entries that the words name. The judged class is class 1, her method 2. -/
namespace start1
open Jvm.ClassFile
def u (s : String) : CpInfo := .utf8 (stringToUtf16 s)
/-- a pool by its gaps: so many unusable entries, then the entry; so many at the end -/
def gap : Nat → List CpInfo → List CpInfo
  | 0, r => r
  | n + 1, r => .unusable :: gap n r
def poolList (es : List (Nat × CpInfo)) (last : Nat) : List CpInfo := es.foldr (fun e r => gap e.1 (e.2 :: r)) (gap last [])
def pool (es : List (Nat × CpInfo)) (last : Nat) : Array CpInfo := ⟨poolList es last⟩
def fileOf (pool : Array CpInfo) (this : Nat) (attrs : Array Attribute := #[]) (ms : Array MethodInfo := #[]) (fl : Nat := 33) (sup : Nat := 0) (ifs : Array Nat := #[]) (fds : Array FieldInfo := #[]) : ClassFile where
  minorVersion := 0
  majorVersion := 65
  constantPool := pool
  accessFlags := fl
  thisClass := this
  superClass := sup
  interfaces := ifs
  fields := fds
  methods := ms
  attributes := attrs
def plain (name : String) (sup : Option ClassId) : Class where
  name := name
  kind := .ordinary
  loader := none
  accessFlags := 33
  super := sup
  interfaces := #[]
  cf := none
  fields := #[]
  methods := #[]
  instanceTypes := #[]
  staticTypes := #[]
  resolved := #[]
  callSites := []
  init := .initialized
  statics := none
  mirror := none

def pool0 : Array CpInfo := pool [(5, u "<init>"), (0, u "()V"), (1, .class_ 10), (1, u "java/lang/Object")] 113

def k0c0 : Code := { maxStack := 0, maxLocals := 1, code := object_method_1_code, exceptionTable := #[], attributes := #[] }
def k0m0 : Method := { name := "<init>", desc := "()V", sig := { parameters := [], returnType := none }, accessFlags := 1, code := some k0c0 }
/-- java/lang/Object -/
def k0 : Class := { plain "java/lang/Object" none with
  accessFlags := 33
  interfaces := #[]
  cf := some (fileOf pool0 8 #[] #[{ accessFlags := 1, nameIndex := 5, descriptorIndex := 6, attributes := #[] }] 33 0 #[] #[])
  fields := #[]
  methods := #[k0m0]
  instanceTypes := #[]
  staticTypes := #[]
  resolved := Array.replicate 124 none
  statics := none }

def pool1 : Array CpInfo := pool [(2, .class_ 4), (1, u "java/lang/Object"), (0, u "<init>"), (0, u "()V"), (0, .integer 65535), (0, .class_ 9), (0, u "java/lang/String"), (0, .methodref 8 11), (0, .nameAndType 5 12), (0, u "([C)V"), (0, .methodref 8 14), (0, .nameAndType 15 16), (0, u "valueOf"), (0, u "(C)Ljava/lang/String;"), (0, .methodref 18 19), (0, .class_ 20), (0, .nameAndType 21 22), (0, u "com/example/portunus/portunus/CommandFailureUsagePinLaw"), (0, u "draw"), (0, u "(IIII)Ljava/lang/String;"), (0, .methodref 24 25), (0, .class_ 26), (0, .nameAndType 27 28), (0, u "com/example/portunus/portunus/CommandFailure"), (0, u "usage"), (0, u "(Ljava/lang/String;)Lcom/example/portunus/portunus/CommandFailure;"), (0, .methodref 24 30), (0, .nameAndType 31 32), (0, u "exitCode"), (0, u "()Lcom/example/portunus/portunus/ExitCode;"), (0, .fieldref 34 35), (0, .class_ 36), (0, .nameAndType 37 38), (0, u "com/example/portunus/portunus/ExitCode"), (0, u "USAGE"), (0, u "Lcom/example/portunus/portunus/ExitCode;"), (0, .methodref 34 40), (0, .nameAndType 41 42), (0, u "code"), (0, u "()I"), (0, .methodref 24 44), (0, .nameAndType 45 46), (0, u "getCause"), (0, u "()Ljava/lang/Throwable;"), (0, .methodref 24 48), (0, .nameAndType 49 50), (0, u "getMessage"), (0, u "()Ljava/lang/String;"), (0, .methodref 8 52), (0, .nameAndType 53 54), (0, u "equals"), (0, u "(Ljava/lang/Object;)Z"), (3, u "law"), (0, u "(IIII)Z")] 2

def k1m0 : Method := { name := "<init>", desc := "()V", sig := { parameters := [], returnType := none }, accessFlags := 2, code := none }
def k1c1 : Code := { maxStack := 3, maxLocals := 9, code := method_2_code, exceptionTable := #[], attributes := #[] }
def k1m1 : Method := { name := "draw", desc := "(IIII)Ljava/lang/String;", sig := { parameters := [.int, .int, .int, .int], returnType := some (.object "java/lang/String") }, accessFlags := 10, code := some k1c1 }
def k1c2 : Code := { maxStack := 4, maxLocals := 9, code := code, exceptionTable := #[], attributes := #[] }
def k1m2 : Method := { name := "law", desc := "(IIII)Z", sig := { parameters := [.int, .int, .int, .int], returnType := some .boolean }, accessFlags := 9, code := some k1c2 }
/-- com/example/portunus/portunus/CommandFailureUsagePinLaw -/
def k1 : Class := { plain "com/example/portunus/portunus/CommandFailureUsagePinLaw" (some 0) with
  accessFlags := 49
  interfaces := #[]
  cf := some (fileOf pool1 18 #[] #[{ accessFlags := 2, nameIndex := 5, descriptorIndex := 6, attributes := #[] }, { accessFlags := 10, nameIndex := 21, descriptorIndex := 22, attributes := #[] }, { accessFlags := 9, nameIndex := 58, descriptorIndex := 59, attributes := #[] }] 49 2 #[] #[])
  fields := #[]
  methods := #[k1m0, k1m1, k1m2]
  instanceTypes := #[]
  staticTypes := #[]
  resolved := Array.replicate 62 none
  statics := none }

def pool2 : Array CpInfo := pool [(1, .class_ 2), (0, u "java/io/Serializable"), (0, .class_ 4), (0, u "java/lang/Object")] 2

/-- java/io/Serializable -/
def k2 : Class := { plain "java/io/Serializable" (some 0) with
  accessFlags := 1537
  interfaces := #[]
  cf := some (fileOf pool2 1 #[] #[] 1537 3 #[] #[])
  fields := #[]
  methods := #[]
  instanceTypes := #[]
  staticTypes := #[]
  resolved := Array.replicate 7 none
  statics := none }

def pool3 : Array CpInfo := pool [(1, .methodref 2 3), (0, .class_ 4), (0, .nameAndType 5 6), (0, u "java/lang/Object"), (0, u "<init>"), (0, u "()V"), (0, .fieldref 8 9), (0, .class_ 10), (0, .nameAndType 11 12), (0, u "java/lang/Throwable"), (0, u "cause"), (0, u "Ljava/lang/Throwable;"), (0, .fieldref 8 14), (0, .nameAndType 15 16), (0, u "UNASSIGNED_STACK"), (0, u "[Ljava/lang/StackTraceElement;"), (0, .fieldref 8 18), (0, .nameAndType 19 16), (0, u "stackTrace"), (0, .fieldref 8 21), (0, .nameAndType 22 23), (0, u "SUPPRESSED_SENTINEL"), (0, u "Ljava/util/List;"), (0, .fieldref 8 25), (0, .nameAndType 26 23), (0, u "suppressedExceptions"), (0, .methodref 8 28), (0, .nameAndType 29 30), (0, u "fillInStackTrace"), (0, u "()Ljava/lang/Throwable;"), (0, .fieldref 8 32), (0, .nameAndType 33 34), (0, u "detailMessage"), (0, u "Ljava/lang/String;"), (3, u "()Ljava/lang/String;"), (2, u "getMessage"), (51, .class_ 94), (0, u "java/lang/Throwable$WrappedPrintStream"), (6, .class_ 103), (1, u "java/lang/Throwable$PrintStreamOrWriter"), (54, u "getCause"), (6, u "$assertionsDisabled"), (0, u "Z"), (26, .class_ 194), (0, u "java/lang/Throwable$WrappedPrintWriter"), (3, .fieldref 8 199), (0, .nameAndType 200 201), (0, u "backtrace"), (0, u "Ljava/lang/Object;"), (0, .methodref 8 203), (0, .nameAndType 29 204), (0, u "(I)Ljava/lang/Throwable;"), (6, u "depth"), (0, u "I"), (10, u "(Ljava/lang/String;)V"), (45, .class_ 271), (1, u "java/lang/Throwable$SentinelHolder"), (32, u "EMPTY_THROWABLE_ARRAY"), (0, u "[Ljava/lang/Throwable;"), (12, .class_ 319), (0, u "java/io/Serializable"), (0, u "serialVersionUID"), (0, u "J"), (5, u "NULL_CAUSE_MESSAGE"), (0, u "SELF_SUPPRESSION_MESSAGE"), (0, u "CAUSE_CAPTION"), (0, u "SUPPRESSED_CAPTION")] 73

def k3c0 : Code := { maxStack := 2, maxLocals := 1, code := jdk_78_method_1_code, exceptionTable := #[], attributes := #[] }
def k3m0 : Method := { name := "<init>", desc := "()V", sig := { parameters := [], returnType := none }, accessFlags := 1, code := some k3c0 }
def k3c1 : Code := { maxStack := 2, maxLocals := 2, code := jdk_78_method_2_code, exceptionTable := #[], attributes := #[] }
def k3m1 : Method := { name := "<init>", desc := "(Ljava/lang/String;)V", sig := { parameters := [(.object "java/lang/String")], returnType := none }, accessFlags := 1, code := some k3c1 }
def k3c2 : Code := { maxStack := 1, maxLocals := 1, code := jdk_78_method_6_code, exceptionTable := #[], attributes := #[] }
def k3m2 : Method := { name := "getMessage", desc := "()Ljava/lang/String;", sig := { parameters := [], returnType := some (.object "java/lang/String") }, accessFlags := 1, code := some k3c2 }
def k3c3 : Code := { maxStack := 2, maxLocals := 1, code := ⟨#[0x2a, 0xb4, 0x00, 0x07, 0x2a, 0xa6, 0x00, 0x07, 0x01, 0xa7, 0x00, 0x07, 0x2a, 0xb4, 0x00, 0x07, 0xb0]⟩, exceptionTable := #[], attributes := #[] }
def k3m3 : Method := { name := "getCause", desc := "()Ljava/lang/Throwable;", sig := { parameters := [], returnType := some (.object "java/lang/Throwable") }, accessFlags := 33, code := some k3c3 }
def k3c4 : Code := { maxStack := 2, maxLocals := 1, code := ⟨#[0x2a, 0xb4, 0x00, 0x11, 0xc7, 0x00, 0x0a, 0x2a, 0xb4, 0x00, 0xc6, 0xc6, 0x00, 0x10, 0x2a, 0x03, 0xb6, 0x00, 0xca, 0x57, 0x2a, 0xb2, 0x00, 0x0d, 0xb5, 0x00, 0x11, 0x2a, 0xb0]⟩, exceptionTable := #[], attributes := #[] }
def k3m4 : Method := { name := "fillInStackTrace", desc := "()Ljava/lang/Throwable;", sig := { parameters := [], returnType := some (.object "java/lang/Throwable") }, accessFlags := 33, code := some k3c4 }
def k3m5 : Method := { name := "fillInStackTrace", desc := "(I)Ljava/lang/Throwable;", sig := { parameters := [.int], returnType := some (.object "java/lang/Throwable") }, accessFlags := 258, code := none }
/-- java/lang/Throwable -/
def k3 : Class := { plain "java/lang/Throwable" (some 0) with
  accessFlags := 33
  interfaces := #[2]
  cf := some (fileOf pool3 8 #[.nestMembers #[193, 93, 101, 269]] #[{ accessFlags := 1, nameIndex := 5, descriptorIndex := 6, attributes := #[] }, { accessFlags := 1, nameIndex := 5, descriptorIndex := 223, attributes := #[] }, { accessFlags := 1, nameIndex := 41, descriptorIndex := 38, attributes := #[] }, { accessFlags := 33, nameIndex := 158, descriptorIndex := 30, attributes := #[] }, { accessFlags := 33, nameIndex := 29, descriptorIndex := 30, attributes := #[] }, { accessFlags := 258, nameIndex := 29, descriptorIndex := 204, attributes := #[] }] 33 2 #[318] #[{ accessFlags := 26, nameIndex := 320, descriptorIndex := 321, attributes := #[] }, { accessFlags := 130, nameIndex := 200, descriptorIndex := 201, attributes := #[] }, { accessFlags := 2, nameIndex := 33, descriptorIndex := 34, attributes := #[] }, { accessFlags := 26, nameIndex := 15, descriptorIndex := 16, attributes := #[] }, { accessFlags := 2, nameIndex := 11, descriptorIndex := 12, attributes := #[] }, { accessFlags := 2, nameIndex := 19, descriptorIndex := 16, attributes := #[] }, { accessFlags := 130, nameIndex := 211, descriptorIndex := 212, attributes := #[] }, { accessFlags := 26, nameIndex := 22, descriptorIndex := 23, attributes := #[] }, { accessFlags := 2, nameIndex := 26, descriptorIndex := 23, attributes := #[] }, { accessFlags := 26, nameIndex := 327, descriptorIndex := 34, attributes := #[] }, { accessFlags := 26, nameIndex := 328, descriptorIndex := 34, attributes := #[] }, { accessFlags := 26, nameIndex := 329, descriptorIndex := 34, attributes := #[] }, { accessFlags := 26, nameIndex := 330, descriptorIndex := 34, attributes := #[] }, { accessFlags := 26, nameIndex := 304, descriptorIndex := 305, attributes := #[] }, { accessFlags := 4120, nameIndex := 165, descriptorIndex := 166, attributes := #[] }])
  fields := #[{ name := "serialVersionUID", type := .long, accessFlags := 26, slot := 0, constantValue := 0 }, { name := "backtrace", type := (.object "java/lang/Object"), accessFlags := 130, slot := 0, constantValue := 0 }, { name := "detailMessage", type := (.object "java/lang/String"), accessFlags := 2, slot := 1, constantValue := 0 }, { name := "UNASSIGNED_STACK", type := (.array (.object "java/lang/StackTraceElement")), accessFlags := 26, slot := 1, constantValue := 0 }, { name := "cause", type := (.object "java/lang/Throwable"), accessFlags := 2, slot := 2, constantValue := 0 }, { name := "stackTrace", type := (.array (.object "java/lang/StackTraceElement")), accessFlags := 2, slot := 3, constantValue := 0 }, { name := "depth", type := .int, accessFlags := 130, slot := 4, constantValue := 0 }, { name := "SUPPRESSED_SENTINEL", type := (.object "java/util/List"), accessFlags := 26, slot := 2, constantValue := 0 }, { name := "suppressedExceptions", type := (.object "java/util/List"), accessFlags := 2, slot := 5, constantValue := 0 }, { name := "NULL_CAUSE_MESSAGE", type := (.object "java/lang/String"), accessFlags := 26, slot := 3, constantValue := 0 }, { name := "SELF_SUPPRESSION_MESSAGE", type := (.object "java/lang/String"), accessFlags := 26, slot := 4, constantValue := 0 }, { name := "CAUSE_CAPTION", type := (.object "java/lang/String"), accessFlags := 26, slot := 5, constantValue := 0 }, { name := "SUPPRESSED_CAPTION", type := (.object "java/lang/String"), accessFlags := 26, slot := 6, constantValue := 0 }, { name := "EMPTY_THROWABLE_ARRAY", type := (.array (.object "java/lang/Throwable")), accessFlags := 26, slot := 7, constantValue := 0 }, { name := "$assertionsDisabled", type := .boolean, accessFlags := 4120, slot := 8, constantValue := 0 }]
  methods := #[k3m0, k3m1, k3m2, k3m3, k3m4, k3m5]
  instanceTypes := #[(.object "java/lang/Object"), (.object "java/lang/String"), (.object "java/lang/Throwable"), (.array (.object "java/lang/StackTraceElement")), .int, (.object "java/util/List")]
  staticTypes := #[.long, (.array (.object "java/lang/StackTraceElement")), (.object "java/util/List"), (.object "java/lang/String"), (.object "java/lang/String"), (.object "java/lang/String"), (.object "java/lang/String"), (.array (.object "java/lang/Throwable")), .boolean]
  resolved := Array.replicate 404 none
  statics := some 0 }

def pool4 : Array CpInfo := pool [(2, .class_ 4), (1, u "java/lang/Throwable"), (0, u "<init>"), (0, u "()V"), (0, .methodref 2 8), (0, .nameAndType 5 9), (0, u "(Ljava/lang/String;)V"), (9, .class_ 20), (0, u "java/lang/Exception"), (0, u "serialVersionUID"), (0, u "J")] 17

def k4m0 : Method := { name := "<init>", desc := "()V", sig := { parameters := [], returnType := none }, accessFlags := 1, code := none }
def k4c1 : Code := { maxStack := 2, maxLocals := 2, code := jdk_59_method_2_code, exceptionTable := #[], attributes := #[] }
def k4m1 : Method := { name := "<init>", desc := "(Ljava/lang/String;)V", sig := { parameters := [(.object "java/lang/String")], returnType := none }, accessFlags := 1, code := some k4c1 }
/-- java/lang/Exception -/
def k4 : Class := { plain "java/lang/Exception" (some 3) with
  accessFlags := 33
  interfaces := #[]
  cf := some (fileOf pool4 19 #[] #[{ accessFlags := 1, nameIndex := 5, descriptorIndex := 6, attributes := #[] }, { accessFlags := 1, nameIndex := 5, descriptorIndex := 9, attributes := #[] }] 33 2 #[] #[{ accessFlags := 24, nameIndex := 21, descriptorIndex := 22, attributes := #[] }])
  fields := #[{ name := "serialVersionUID", type := .long, accessFlags := 24, slot := 0, constantValue := 0 }]
  methods := #[k4m0, k4m1]
  instanceTypes := #[(.object "java/lang/Object"), (.object "java/lang/String"), (.object "java/lang/Throwable"), (.array (.object "java/lang/StackTraceElement")), .int, (.object "java/util/List")]
  staticTypes := #[.long]
  resolved := Array.replicate 40 none
  statics := none }

def pool5 : Array CpInfo := pool [(1, .methodref 2 3), (0, .class_ 4), (0, .nameAndType 5 6), (0, u "java/lang/Exception"), (0, u "<init>"), (0, u "(Ljava/lang/String;)V"), (0, .fieldref 8 9), (0, .class_ 10), (0, .nameAndType 11 12), (0, u "com/example/portunus/portunus/CommandFailure"), (0, u "exitCode"), (0, u "Lcom/example/portunus/portunus/ExitCode;"), (0, .fieldref 14 15), (0, .class_ 16), (0, .nameAndType 17 12), (0, u "com/example/portunus/portunus/ExitCode"), (0, u "USAGE"), (0, .methodref 8 19), (0, .nameAndType 5 20), (0, u "(Lcom/example/portunus/portunus/ExitCode;Ljava/lang/String;)V"), (10, u "usage"), (0, u "(Ljava/lang/String;)Lcom/example/portunus/portunus/CommandFailure;"), (22, u "serialVersionUID"), (0, u "J"), (10, u "()Lcom/example/portunus/portunus/ExitCode;")] 23

def k5c0 : Code := { maxStack := 2, maxLocals := 3, code := prog_3_method_1_code, exceptionTable := #[], attributes := #[] }
def k5m0 : Method := { name := "<init>", desc := "(Lcom/example/portunus/portunus/ExitCode;Ljava/lang/String;)V", sig := { parameters := [(.object "com/example/portunus/portunus/ExitCode"), (.object "java/lang/String")], returnType := none }, accessFlags := 0, code := some k5c0 }
def k5c1 : Code := { maxStack := 4, maxLocals := 1, code := prog_3_method_2_code, exceptionTable := #[], attributes := #[] }
def k5m1 : Method := { name := "usage", desc := "(Ljava/lang/String;)Lcom/example/portunus/portunus/CommandFailure;", sig := { parameters := [(.object "java/lang/String")], returnType := some (.object "com/example/portunus/portunus/CommandFailure") }, accessFlags := 8, code := some k5c1 }
def k5c2 : Code := { maxStack := 1, maxLocals := 1, code := prog_3_method_5_code, exceptionTable := #[], attributes := #[] }
def k5m2 : Method := { name := "exitCode", desc := "()Lcom/example/portunus/portunus/ExitCode;", sig := { parameters := [], returnType := some (.object "com/example/portunus/portunus/ExitCode") }, accessFlags := 0, code := some k5c2 }
/-- com/example/portunus/portunus/CommandFailure -/
def k5 : Class := { plain "com/example/portunus/portunus/CommandFailure" (some 4) with
  accessFlags := 48
  interfaces := #[]
  cf := some (fileOf pool5 8 #[] #[{ accessFlags := 0, nameIndex := 5, descriptorIndex := 20, attributes := #[] }, { accessFlags := 8, nameIndex := 31, descriptorIndex := 32, attributes := #[] }, { accessFlags := 0, nameIndex := 11, descriptorIndex := 67, attributes := #[] }] 48 2 #[] #[{ accessFlags := 26, nameIndex := 55, descriptorIndex := 56, attributes := #[] }, { accessFlags := 18, nameIndex := 11, descriptorIndex := 12, attributes := #[] }])
  fields := #[{ name := "serialVersionUID", type := .long, accessFlags := 26, slot := 0, constantValue := 0 }, { name := "exitCode", type := (.object "com/example/portunus/portunus/ExitCode"), accessFlags := 18, slot := 6, constantValue := 0 }]
  methods := #[k5m0, k5m1, k5m2]
  instanceTypes := #[(.object "java/lang/Object"), (.object "java/lang/String"), (.object "java/lang/Throwable"), (.array (.object "java/lang/StackTraceElement")), .int, (.object "java/util/List"), (.object "com/example/portunus/portunus/ExitCode")]
  staticTypes := #[.long]
  resolved := Array.replicate 91 none
  statics := none }

def pool6 : Array CpInfo := pool [(1, .class_ 2), (0, u "java/lang/constant/Constable"), (0, .class_ 4), (0, u "java/lang/Object")] 6

/-- java/lang/constant/Constable -/
def k6 : Class := { plain "java/lang/constant/Constable" (some 0) with
  accessFlags := 1537
  interfaces := #[]
  cf := some (fileOf pool6 1 #[] #[] 1537 3 #[] #[])
  fields := #[]
  methods := #[]
  instanceTypes := #[]
  staticTypes := #[]
  resolved := Array.replicate 11 none
  statics := none }

def pool7 : Array CpInfo := pool [(1, .class_ 2), (0, u "java/lang/Comparable"), (0, .class_ 4), (0, u "java/lang/Object")] 7

/-- java/lang/Comparable -/
def k7 : Class := { plain "java/lang/Comparable" (some 0) with
  accessFlags := 1537
  interfaces := #[]
  cf := some (fileOf pool7 1 #[] #[] 1537 3 #[] #[])
  fields := #[]
  methods := #[]
  instanceTypes := #[]
  staticTypes := #[]
  resolved := Array.replicate 12 none
  statics := none }

def pool8 : Array CpInfo := pool [(2, .class_ 4), (1, u "java/lang/Enum"), (0, u "name"), (0, u "Ljava/lang/String;"), (2, u "ordinal"), (0, u "I"), (1, .class_ 14), (1, u "java/lang/Object"), (4, u "hash"), (86, .class_ 108), (1, u "java/lang/Enum$EnumDesc"), (2, .class_ 112), (0, u "java/lang/constant/Constable"), (0, .class_ 114), (0, u "java/lang/Comparable"), (0, .class_ 116), (0, u "java/io/Serializable")] 87

/-- java/lang/Enum -/
def k8 : Class := { plain "java/lang/Enum" (some 0) with
  accessFlags := 1057
  interfaces := #[6, 7, 2]
  cf := some (fileOf pool8 2 #[.nestMembers #[106]] #[] 1057 12 #[111, 113, 115] #[{ accessFlags := 18, nameIndex := 5, descriptorIndex := 6, attributes := #[] }, { accessFlags := 18, nameIndex := 9, descriptorIndex := 10, attributes := #[] }, { accessFlags := 2, nameIndex := 19, descriptorIndex := 10, attributes := #[] }])
  fields := #[{ name := "name", type := (.object "java/lang/String"), accessFlags := 18, slot := 0, constantValue := 0 }, { name := "ordinal", type := .int, accessFlags := 18, slot := 1, constantValue := 0 }, { name := "hash", type := .int, accessFlags := 2, slot := 2, constantValue := 0 }]
  methods := #[]
  instanceTypes := #[(.object "java/lang/String"), .int, .int]
  staticTypes := #[]
  resolved := Array.replicate 204 none
  statics := none }

def pool9 : Array CpInfo := pool [(1, .class_ 2), (0, u "com/example/portunus/portunus/ExitCode"), (2, u "SUCCESS"), (0, u "Lcom/example/portunus/portunus/ExitCode;"), (2, u "FAILURE"), (2, u "USAGE"), (2, u "NO_SUCH_RECORD"), (2, u "CANNOT_UNLOCK"), (2, u "DAMAGED"), (2, u "REFUSED"), (2, u "$VALUES"), (0, u "[Lcom/example/portunus/portunus/ExitCode;"), (6, .class_ 37), (1, u "java/lang/Enum"), (6, .fieldref 1 45), (0, .nameAndType 46 47), (0, u "code"), (0, u "I"), (21, u "()I")] 5

def k9c0 : Code := { maxStack := 1, maxLocals := 1, code := prog_8_method_4_code, exceptionTable := #[], attributes := #[] }
def k9m0 : Method := { name := "code", desc := "()I", sig := { parameters := [], returnType := some .int }, accessFlags := 0, code := some k9c0 }
/-- com/example/portunus/portunus/ExitCode -/
def k9 : Class := { plain "com/example/portunus/portunus/ExitCode" (some 8) with
  accessFlags := 16432
  interfaces := #[]
  cf := some (fileOf pool9 1 #[] #[{ accessFlags := 0, nameIndex := 46, descriptorIndex := 69, attributes := #[] }] 16432 35 #[] #[{ accessFlags := 16409, nameIndex := 5, descriptorIndex := 6, attributes := #[] }, { accessFlags := 16409, nameIndex := 9, descriptorIndex := 6, attributes := #[] }, { accessFlags := 16409, nameIndex := 12, descriptorIndex := 6, attributes := #[] }, { accessFlags := 16409, nameIndex := 15, descriptorIndex := 6, attributes := #[] }, { accessFlags := 16409, nameIndex := 18, descriptorIndex := 6, attributes := #[] }, { accessFlags := 16409, nameIndex := 21, descriptorIndex := 6, attributes := #[] }, { accessFlags := 16409, nameIndex := 24, descriptorIndex := 6, attributes := #[] }, { accessFlags := 18, nameIndex := 46, descriptorIndex := 47, attributes := #[] }, { accessFlags := 4122, nameIndex := 27, descriptorIndex := 28, attributes := #[] }])
  fields := #[{ name := "SUCCESS", type := (.object "com/example/portunus/portunus/ExitCode"), accessFlags := 16409, slot := 0, constantValue := 0 }, { name := "FAILURE", type := (.object "com/example/portunus/portunus/ExitCode"), accessFlags := 16409, slot := 1, constantValue := 0 }, { name := "USAGE", type := (.object "com/example/portunus/portunus/ExitCode"), accessFlags := 16409, slot := 2, constantValue := 0 }, { name := "NO_SUCH_RECORD", type := (.object "com/example/portunus/portunus/ExitCode"), accessFlags := 16409, slot := 3, constantValue := 0 }, { name := "CANNOT_UNLOCK", type := (.object "com/example/portunus/portunus/ExitCode"), accessFlags := 16409, slot := 4, constantValue := 0 }, { name := "DAMAGED", type := (.object "com/example/portunus/portunus/ExitCode"), accessFlags := 16409, slot := 5, constantValue := 0 }, { name := "REFUSED", type := (.object "com/example/portunus/portunus/ExitCode"), accessFlags := 16409, slot := 6, constantValue := 0 }, { name := "code", type := .int, accessFlags := 18, slot := 3, constantValue := 0 }, { name := "$VALUES", type := (.array (.object "com/example/portunus/portunus/ExitCode")), accessFlags := 4122, slot := 7, constantValue := 0 }]
  methods := #[k9m0]
  instanceTypes := #[(.object "java/lang/String"), .int, .int, .int]
  staticTypes := #[(.object "com/example/portunus/portunus/ExitCode"), (.object "com/example/portunus/portunus/ExitCode"), (.object "com/example/portunus/portunus/ExitCode"), (.object "com/example/portunus/portunus/ExitCode"), (.object "com/example/portunus/portunus/ExitCode"), (.object "com/example/portunus/portunus/ExitCode"), (.object "com/example/portunus/portunus/ExitCode"), (.array (.object "com/example/portunus/portunus/ExitCode"))]
  resolved := Array.replicate 75 none
  statics := some 1 }

def pool10 : Array CpInfo := pool [(2, .class_ 4), (1, u "java/lang/CharSequence"), (42, .class_ 48), (0, u "java/lang/CharSequence$1CodePointIterator"), (10, .class_ 60), (0, u "java/lang/CharSequence$1CharIterator"), (5, .class_ 67), (0, u "java/lang/Object")] 63

/-- java/lang/CharSequence -/
def k10 : Class := { plain "java/lang/CharSequence" (some 0) with
  accessFlags := 1537
  interfaces := #[]
  cf := some (fileOf pool10 2 #[.nestMembers #[47, 59]] #[] 1537 66 #[] #[])
  fields := #[]
  methods := #[]
  instanceTypes := #[]
  staticTypes := #[]
  resolved := Array.replicate 131 none
  statics := none }

def pool11 : Array CpInfo := pool [(1, .class_ 2), (0, u "java/lang/constant/ConstantDesc"), (0, .class_ 4), (0, u "java/lang/Object")] 32

/-- java/lang/constant/ConstantDesc -/
def k11 : Class := { plain "java/lang/constant/ConstantDesc" (some 0) with
  accessFlags := 1537
  interfaces := #[]
  cf := some (fileOf pool11 1 #[] #[] 1537 3 #[] #[])
  fields := #[]
  methods := #[]
  instanceTypes := #[]
  staticTypes := #[]
  resolved := Array.replicate 37 none
  statics := none }

def pool12 : Array CpInfo := pool [(1, .methodref 2 3), (0, .class_ 4), (0, .nameAndType 5 6), (0, u "java/lang/Object"), (0, u "<init>"), (0, u "()V"), (0, .string 8), (0, u ""), (0, .fieldref 10 11), (0, .class_ 12), (0, .nameAndType 13 14), (0, u "java/lang/String"), (0, u "value"), (0, u "[B"), (0, .fieldref 10 16), (0, .nameAndType 17 18), (0, u "coder"), (0, u "B"), (2, u "hash"), (0, u "I"), (2, u "hashIsZero"), (0, u "Z"), (0, .methodref 10 28), (0, .nameAndType 5 29), (0, u "([CIILjava/lang/Void;)V"), (8, .fieldref 10 39), (0, .nameAndType 40 26), (0, u "COMPACT_STRINGS"), (1, .class_ 44), (1, u "java/lang/StringUTF16"), (0, u "compress"), (1, .methodref 42 48), (0, .nameAndType 49 50), (0, u "coderFromArrayLen"), (0, u "([BI)B"), (2, u "toBytes"), (53, .class_ 109), (1, u "java/lang/StringLatin1"), (67, .methodref 42 178), (0, .nameAndType 45 179), (0, u "([CII)[B"), (29, .methodref 10 210), (0, .nameAndType 5 211), (0, u "([BB)V"), (157, u "(C)Z"), (173, u "equals"), (29, u "(Ljava/lang/Object;)Z"), (1, .class_ 576), (0, u "java/lang/CharSequence"), (22, u "CASE_INSENSITIVE_ORDER"), (0, u "Ljava/util/Comparator;"), (181, u "valueOf"), (0, u "(C)Ljava/lang/String;"), (226, u "([C)V"), (4, .methodref 107 1016), (0, .nameAndType 1017 369), (0, u "canEncode"), (0, .methodref 107 1019), (0, .nameAndType 53 1020), (0, u "(C)[B"), (0, .methodref 42 1019), (79, u "serialPersistentFields"), (0, u "[Ljava/io/ObjectStreamField;"), (0, .class_ 1104), (0, u "java/lang/String$CaseInsensitiveComparator"), (1, .class_ 1107), (0, u "java/io/Serializable"), (0, .class_ 1109), (0, u "java/lang/Comparable"), (0, .class_ 1111), (0, u "java/lang/constant/Constable"), (0, .class_ 1113), (0, u "java/lang/constant/ConstantDesc"), (2, u "serialVersionUID"), (0, u "J"), (3, u "REPL"), (0, u "C"), (2, u "LATIN1"), (1, u "UTF16")] 323

def k12m0 : Method := { name := "<init>", desc := "()V", sig := { parameters := [], returnType := none }, accessFlags := 1, code := none }
def k12c1 : Code := { maxStack := 5, maxLocals := 2, code := jdk_42_method_3_code, exceptionTable := #[], attributes := #[] }
def k12m1 : Method := { name := "<init>", desc := "([C)V", sig := { parameters := [(.array .char)], returnType := none }, accessFlags := 1, code := some k12c1 }
def k12c2 : Code := { maxStack := 2, maxLocals := 3, code := jdk_42_method_66_code, exceptionTable := #[], attributes := #[] }
def k12m2 : Method := { name := "equals", desc := "(Ljava/lang/Object;)Z", sig := { parameters := [(.object "java/lang/Object")], returnType := some .boolean }, accessFlags := 1, code := some k12c2 }
def k12c3 : Code := { maxStack := 4, maxLocals := 1, code := jdk_42_method_139_code, exceptionTable := #[], attributes := #[] }
def k12m3 : Method := { name := "valueOf", desc := "(C)Ljava/lang/String;", sig := { parameters := [.char], returnType := some (.object "java/lang/String") }, accessFlags := 9, code := some k12c3 }
def k12c4 : Code := { maxStack := 4, maxLocals := 6, code := jdk_42_method_149_code, exceptionTable := #[], attributes := #[] }
def k12m4 : Method := { name := "<init>", desc := "([CIILjava/lang/Void;)V", sig := { parameters := [(.array .char), .int, .int, (.object "java/lang/Void")], returnType := none }, accessFlags := 2, code := some k12c4 }
def k12c5 : Code := { maxStack := 2, maxLocals := 3, code := jdk_42_method_151_code, exceptionTable := #[], attributes := #[] }
def k12m5 : Method := { name := "<init>", desc := "([BB)V", sig := { parameters := [(.array .byte), .byte], returnType := none }, accessFlags := 0, code := some k12c5 }
/-- java/lang/String -/
def k12 : Class := { plain "java/lang/String" (some 0) with
  accessFlags := 49
  interfaces := #[2, 7, 10, 6, 11]
  cf := some (fileOf pool12 10 #[.nestMembers #[1103]] #[{ accessFlags := 1, nameIndex := 5, descriptorIndex := 6, attributes := #[] }, { accessFlags := 1, nameIndex := 5, descriptorIndex := 1010, attributes := #[] }, { accessFlags := 1, nameIndex := 543, descriptorIndex := 573, attributes := #[] }, { accessFlags := 9, nameIndex := 782, descriptorIndex := 783, attributes := #[] }, { accessFlags := 2, nameIndex := 5, descriptorIndex := 29, attributes := #[] }, { accessFlags := 0, nameIndex := 5, descriptorIndex := 211, attributes := #[] }] 49 2 #[1106, 1108, 575, 1110, 1112] #[{ accessFlags := 18, nameIndex := 13, descriptorIndex := 14, attributes := #[] }, { accessFlags := 18, nameIndex := 17, descriptorIndex := 18, attributes := #[] }, { accessFlags := 2, nameIndex := 21, descriptorIndex := 22, attributes := #[] }, { accessFlags := 2, nameIndex := 25, descriptorIndex := 26, attributes := #[] }, { accessFlags := 26, nameIndex := 1116, descriptorIndex := 1117, attributes := #[] }, { accessFlags := 24, nameIndex := 40, descriptorIndex := 26, attributes := #[] }, { accessFlags := 26, nameIndex := 1101, descriptorIndex := 1102, attributes := #[] }, { accessFlags := 26, nameIndex := 1121, descriptorIndex := 1122, attributes := #[] }, { accessFlags := 25, nameIndex := 599, descriptorIndex := 600, attributes := #[] }, { accessFlags := 24, nameIndex := 1125, descriptorIndex := 18, attributes := #[] }, { accessFlags := 24, nameIndex := 1127, descriptorIndex := 18, attributes := #[] }])
  fields := #[{ name := "value", type := (.array .byte), accessFlags := 18, slot := 0, constantValue := 0 }, { name := "coder", type := .byte, accessFlags := 18, slot := 1, constantValue := 0 }, { name := "hash", type := .int, accessFlags := 2, slot := 2, constantValue := 0 }, { name := "hashIsZero", type := .boolean, accessFlags := 2, slot := 3, constantValue := 0 }, { name := "serialVersionUID", type := .long, accessFlags := 26, slot := 0, constantValue := 0 }, { name := "COMPACT_STRINGS", type := .boolean, accessFlags := 24, slot := 1, constantValue := 0 }, { name := "serialPersistentFields", type := (.array (.object "java/io/ObjectStreamField")), accessFlags := 26, slot := 2, constantValue := 0 }, { name := "REPL", type := .char, accessFlags := 26, slot := 3, constantValue := 0 }, { name := "CASE_INSENSITIVE_ORDER", type := (.object "java/util/Comparator"), accessFlags := 25, slot := 4, constantValue := 0 }, { name := "LATIN1", type := .byte, accessFlags := 24, slot := 5, constantValue := 0 }, { name := "UTF16", type := .byte, accessFlags := 24, slot := 6, constantValue := 0 }]
  methods := #[k12m0, k12m1, k12m2, k12m3, k12m4, k12m5]
  instanceTypes := #[(.array .byte), .byte, .int, .boolean]
  staticTypes := #[.long, .boolean, (.array (.object "java/io/ObjectStreamField")), .char, (.object "java/util/Comparator"), .byte, .byte]
  resolved := Array.replicate 1451 none
  statics := some 2 }

def pool13 : Array CpInfo := pool [(6, .class_ 8), (1, u "java/lang/Object"), (0, u "<init>"), (0, u "()V"), (0, .methodref 12 13), (0, .class_ 14), (0, .nameAndType 15 16), (0, u "java/lang/StringUTF16"), (0, u "newBytesLength"), (0, u "(I)I"), (3, .integer 1073741823), (23, .fieldref 12 45), (0, .nameAndType 46 47), (0, u "$assertionsDisabled"), (0, u "Z"), (11, .fieldref 12 60), (0, .nameAndType 61 62), (0, u "HI_BYTE_SHIFT"), (0, u "I"), (0, .fieldref 12 64), (0, .nameAndType 65 62), (0, u "LO_BYTE_SHIFT"), (5, .methodref 12 72), (0, .nameAndType 73 74), (0, u "getChar"), (0, u "([BI)C"), (32, .methodref 12 108), (0, .nameAndType 109 110), (0, u "newBytesFor"), (0, u "(I)[B"), (0, .methodref 12 112), (0, .nameAndType 113 114), (0, u "putChar"), (0, u "([BII)V"), (0, .methodref 12 116), (0, .nameAndType 117 118), (0, u "compress"), (0, u "([CI[BII)I"), (0, .methodref 12 120), (0, .nameAndType 121 122), (0, u "toBytes"), (0, u "([CII)[B"), (138, u "coderFromArrayLen"), (0, u "([BI)B"), (106, .class_ 371), (1, u "java/lang/StringUTF16$LinesSpliterator"), (58, u "MAX_LENGTH"), (44, u "(C)[B"), (151, .class_ 628), (0, u "java/lang/StringUTF16$CodePointsSpliterator"), (0, .class_ 630), (0, u "java/lang/StringUTF16$CharsSpliterator")] 4

def k13m0 : Method := { name := "<init>", desc := "()V", sig := { parameters := [], returnType := none }, accessFlags := 0, code := none }
def k13c1 : Code := { maxStack := 1, maxLocals := 1, code := jdk_52_method_2_code, exceptionTable := #[], attributes := #[] }
def k13m1 : Method := { name := "newBytesFor", desc := "(I)[B", sig := { parameters := [.int], returnType := some (.array .byte) }, accessFlags := 9, code := some k13c1 }
def k13c2 : Code := { maxStack := 4, maxLocals := 1, code := jdk_52_method_3_code, exceptionTable := #[], attributes := #[] }
def k13m2 : Method := { name := "newBytesLength", desc := "(I)I", sig := { parameters := [.int], returnType := some .int }, accessFlags := 9, code := some k13c2 }
def k13c3 : Code := { maxStack := 4, maxLocals := 3, code := jdk_52_method_4_code, exceptionTable := #[], attributes := #[] }
def k13m3 : Method := { name := "putChar", desc := "([BII)V", sig := { parameters := [(.array .byte), .int, .int], returnType := none }, accessFlags := 8, code := some k13c3 }
def k13c4 : Code := { maxStack := 3, maxLocals := 2, code := jdk_52_method_5_code, exceptionTable := #[], attributes := #[] }
def k13m4 : Method := { name := "getChar", desc := "([BI)C", sig := { parameters := [(.array .byte), .int], returnType := some .char }, accessFlags := 8, code := some k13c4 }
def k13c5 : Code := { maxStack := 4, maxLocals := 5, code := jdk_52_method_14_code, exceptionTable := #[], attributes := #[] }
def k13m5 : Method := { name := "toBytes", desc := "([CII)[B", sig := { parameters := [(.array .char), .int, .int], returnType := some (.array .byte) }, accessFlags := 9, code := some k13c5 }
def k13c6 : Code := { maxStack := 2, maxLocals := 2, code := jdk_52_method_15_code, exceptionTable := #[], attributes := #[] }
def k13m6 : Method := { name := "coderFromArrayLen", desc := "([BI)B", sig := { parameters := [(.array .byte), .int], returnType := some .byte }, accessFlags := 8, code := some k13c6 }
def k13c7 : Code := { maxStack := 5, maxLocals := 6, code := jdk_52_method_16_code, exceptionTable := #[], attributes := #[] }
def k13m7 : Method := { name := "compress", desc := "([CII)[B", sig := { parameters := [(.array .char), .int, .int], returnType := some (.array .byte) }, accessFlags := 9, code := some k13c7 }
def k13c8 : Code := { maxStack := 3, maxLocals := 7, code := jdk_52_method_21_code, exceptionTable := #[], attributes := #[] }
def k13m8 : Method := { name := "compress", desc := "([CI[BII)I", sig := { parameters := [(.array .char), .int, (.array .byte), .int, .int], returnType := some .int }, accessFlags := 9, code := some k13c8 }
def k13c9 : Code := { maxStack := 3, maxLocals := 2, code := jdk_52_method_24_code, exceptionTable := #[], attributes := #[] }
def k13m9 : Method := { name := "toBytes", desc := "(C)[B", sig := { parameters := [.char], returnType := some (.array .byte) }, accessFlags := 9, code := some k13c9 }
/-- java/lang/StringUTF16 -/
def k13 : Class := { plain "java/lang/StringUTF16" (some 0) with
  accessFlags := 48
  interfaces := #[]
  cf := some (fileOf pool13 12 #[.nestMembers #[627, 629, 369]] #[{ accessFlags := 0, nameIndex := 9, descriptorIndex := 10, attributes := #[] }, { accessFlags := 9, nameIndex := 109, descriptorIndex := 110, attributes := #[] }, { accessFlags := 9, nameIndex := 15, descriptorIndex := 16, attributes := #[] }, { accessFlags := 8, nameIndex := 113, descriptorIndex := 114, attributes := #[] }, { accessFlags := 8, nameIndex := 73, descriptorIndex := 74, attributes := #[] }, { accessFlags := 9, nameIndex := 121, descriptorIndex := 122, attributes := #[] }, { accessFlags := 8, nameIndex := 261, descriptorIndex := 262, attributes := #[] }, { accessFlags := 9, nameIndex := 117, descriptorIndex := 122, attributes := #[] }, { accessFlags := 9, nameIndex := 117, descriptorIndex := 118, attributes := #[] }, { accessFlags := 9, nameIndex := 121, descriptorIndex := 475, attributes := #[] }] 48 6 #[] #[{ accessFlags := 26, nameIndex := 61, descriptorIndex := 62, attributes := #[] }, { accessFlags := 26, nameIndex := 65, descriptorIndex := 62, attributes := #[] }, { accessFlags := 24, nameIndex := 430, descriptorIndex := 62, attributes := #[] }, { accessFlags := 4120, nameIndex := 46, descriptorIndex := 47, attributes := #[] }])
  fields := #[{ name := "HI_BYTE_SHIFT", type := .int, accessFlags := 26, slot := 0, constantValue := 0 }, { name := "LO_BYTE_SHIFT", type := .int, accessFlags := 26, slot := 1, constantValue := 0 }, { name := "MAX_LENGTH", type := .int, accessFlags := 24, slot := 2, constantValue := 0 }, { name := "$assertionsDisabled", type := .boolean, accessFlags := 4120, slot := 3, constantValue := 0 }]
  methods := #[k13m0, k13m1, k13m2, k13m3, k13m4, k13m5, k13m6, k13m7, k13m8, k13m9]
  instanceTypes := #[]
  staticTypes := #[.int, .int, .int, .boolean]
  resolved := Array.replicate 635 none
  statics := some 3 }

def pool14 : Array CpInfo := pool [(4, .class_ 6), (1, u "java/lang/Object"), (0, u "<init>"), (0, u "()V"), (5, .class_ 16), (1, u "java/lang/StringLatin1"), (73, u "canEncode"), (14, u "(C)Z"), (15, u "$assertionsDisabled"), (0, u "Z"), (98, .class_ 223), (1, u "java/lang/StringLatin1$LinesSpliterator"), (156, u "toBytes"), (1, u "(C)[B"), (7, .class_ 391), (0, u "java/lang/StringLatin1$CharsSpliterator")] 3

def k14m0 : Method := { name := "<init>", desc := "()V", sig := { parameters := [], returnType := none }, accessFlags := 0, code := none }
def k14c1 : Code := { maxStack := 2, maxLocals := 1, code := jdk_43_method_3_code, exceptionTable := #[], attributes := #[] }
def k14m1 : Method := { name := "canEncode", desc := "(C)Z", sig := { parameters := [.char], returnType := some .boolean }, accessFlags := 9, code := some k14c1 }
def k14c2 : Code := { maxStack := 4, maxLocals := 1, code := jdk_43_method_46_code, exceptionTable := #[], attributes := #[] }
def k14m2 : Method := { name := "toBytes", desc := "(C)[B", sig := { parameters := [.char], returnType := some (.array .byte) }, accessFlags := 9, code := some k14c2 }
/-- java/lang/StringLatin1 -/
def k14 : Class := { plain "java/lang/StringLatin1" (some 0) with
  accessFlags := 48
  interfaces := #[]
  cf := some (fileOf pool14 14 #[.nestMembers #[390, 221]] #[{ accessFlags := 0, nameIndex := 7, descriptorIndex := 8, attributes := #[] }, { accessFlags := 9, nameIndex := 90, descriptorIndex := 105, attributes := #[] }, { accessFlags := 9, nameIndex := 380, descriptorIndex := 382, attributes := #[] }] 48 4 #[] #[{ accessFlags := 4120, nameIndex := 121, descriptorIndex := 122, attributes := #[] }])
  fields := #[{ name := "$assertionsDisabled", type := .boolean, accessFlags := 4120, slot := 0, constantValue := 0 }]
  methods := #[k14m0, k14m1, k14m2]
  instanceTypes := #[]
  staticTypes := #[.boolean]
  resolved := Array.replicate 395 none
  statics := none }

def pool15 : Array CpInfo := pool [(2, .class_ 4), (1, u "java/lang/Object"), (0, u "<init>"), (0, u "()V"), (12, .class_ 20), (0, u "java/util/Collections"), (63, u "r"), (0, u "Ljava/util/Random;"), (80, .class_ 167), (0, u "java/util/Collections$UnmodifiableCollection"), (6, .class_ 175), (0, u "java/util/Collections$UnmodifiableSequencedCollection"), (6, .class_ 183), (0, u "java/util/Collections$UnmodifiableSet"), (6, .class_ 191), (0, u "java/util/Collections$UnmodifiableSequencedSet"), (6, .class_ 199), (0, u "java/util/Collections$UnmodifiableSortedSet"), (6, .class_ 207), (0, u "java/util/Collections$UnmodifiableNavigableSet"), (4, .class_ 213), (0, u "java/util/Collections$UnmodifiableList"), (1, .class_ 216), (0, u "java/util/Collections$UnmodifiableRandomAccessList"), (6, .class_ 224), (0, u "java/util/Collections$UnmodifiableMap"), (6, .class_ 232), (0, u "java/util/Collections$UnmodifiableSequencedMap"), (4, .class_ 238), (0, u "java/util/Collections$UnmodifiableSortedMap"), (6, .class_ 246), (0, u "java/util/Collections$UnmodifiableNavigableMap"), (3, .class_ 251), (0, u "java/util/Collections$SynchronizedCollection"), (4, .class_ 257), (0, u "java/util/Collections$SynchronizedSet"), (4, .class_ 263), (0, u "java/util/Collections$SynchronizedSortedSet"), (1, .class_ 266), (0, u "java/util/Collections$SynchronizedNavigableSet"), (1, .class_ 269), (0, u "java/util/Collections$SynchronizedRandomAccessList"), (1, .class_ 272), (0, u "java/util/Collections$SynchronizedList"), (5, .class_ 279), (0, u "java/util/Collections$SynchronizedMap"), (1, .class_ 282), (0, u "java/util/Collections$SynchronizedSortedMap"), (1, .class_ 285), (0, u "java/util/Collections$SynchronizedNavigableMap"), (1, .class_ 288), (0, u "java/util/Collections$CheckedCollection"), (11, .class_ 301), (0, u "java/util/Collections$CheckedQueue"), (3, .class_ 306), (0, u "java/util/Collections$CheckedSet"), (3, .class_ 311), (0, u "java/util/Collections$CheckedSortedSet"), (3, .class_ 316), (0, u "java/util/Collections$CheckedNavigableSet"), (3, .class_ 321), (0, u "java/util/Collections$CheckedRandomAccessList"), (3, .class_ 326), (0, u "java/util/Collections$CheckedList"), (1, .class_ 329), (0, u "java/util/Collections$CheckedMap"), (3, .class_ 334), (0, u "java/util/Collections$CheckedSortedMap"), (3, .class_ 339), (0, u "java/util/Collections$CheckedNavigableMap"), (4, .class_ 346), (1, u "java/util/Collections$EmptyIterator"), (3, .class_ 352), (1, u "java/util/Collections$EmptyListIterator"), (2, .class_ 357), (1, u "java/util/Collections$EmptyEnumeration"), (4, u "EMPTY_SET"), (0, u "Ljava/util/Set;"), (6, u "EMPTY_LIST"), (0, u "Ljava/util/List;"), (2, u "EMPTY_MAP"), (0, u "Ljava/util/Map;"), (4, .class_ 381), (0, u "java/util/Collections$SingletonSet"), (2, .class_ 385), (0, u "java/util/Collections$1"), (1, .class_ 388), (0, u "java/util/Collections$2"), (1, .class_ 391), (0, u "java/util/Collections$SingletonList"), (1, .class_ 394), (0, u "java/util/Collections$SingletonMap"), (22, .class_ 418), (0, u "java/util/Collections$CopiesList"), (4, .class_ 425), (1, u "java/util/Collections$ReverseComparator"), (8, .class_ 435), (0, u "java/util/Collections$ReverseComparator2"), (6, .class_ 443), (0, u "java/util/Collections$3"), (25, .class_ 470), (0, u "java/util/Collections$SetFromMap"), (2, .class_ 474), (0, u "java/util/Collections$SequencedSetFromMap"), (3, .class_ 479), (0, u "java/util/Collections$AsLIFOQueue"), (11, .class_ 492), (0, u "java/util/Collections$EmptySet"), (1, .class_ 495), (0, u "java/util/Collections$EmptyList"), (1, .class_ 498), (0, u "java/util/Collections$EmptyMap"), (1, u "BINARYSEARCH_THRESHOLD"), (0, u "I"), (2, u "REVERSE_THRESHOLD"), (1, u "SHUFFLE_THRESHOLD"), (1, u "FILL_THRESHOLD"), (1, u "ROTATE_THRESHOLD"), (1, u "COPY_THRESHOLD"), (1, u "REPLACEALL_THRESHOLD"), (1, u "INDEXOFSUBLIST_THRESHOLD"), (333, .class_ 851), (0, u "java/util/Collections$CheckedMap$CheckedEntrySet"), (0, .class_ 853), (0, u "java/util/Collections$CheckedMap$CheckedEntrySet$CheckedEntry"), (0, .class_ 855), (0, u "java/util/Collections$CheckedMap$CheckedEntrySet$1"), (0, .class_ 857), (0, u "java/util/Collections$CheckedList$1"), (0, .class_ 859), (0, u "java/util/Collections$CheckedCollection$1"), (0, .class_ 861), (0, u "java/util/Collections$UnmodifiableNavigableMap$EmptyNavigableMap"), (0, .class_ 863), (0, u "java/util/Collections$UnmodifiableMap$UnmodifiableEntrySet"), (0, .class_ 865), (0, u "java/util/Collections$UnmodifiableMap$UnmodifiableEntrySet$UnmodifiableEntry"), (0, .class_ 867), (0, u "java/util/Collections$UnmodifiableMap$UnmodifiableEntrySet$UnmodifiableEntrySetSpliterator"), (0, .class_ 869), (0, u "java/util/Collections$UnmodifiableMap$UnmodifiableEntrySet$1"), (0, .class_ 871), (0, u "java/util/Collections$UnmodifiableList$1"), (0, .class_ 873), (0, u "java/util/Collections$UnmodifiableNavigableSet$EmptyNavigableSet"), (0, .class_ 875), (0, u "java/util/Collections$UnmodifiableCollection$1")] 57

def k15m0 : Method := { name := "<init>", desc := "()V", sig := { parameters := [], returnType := none }, accessFlags := 2, code := none }
/-- java/util/Collections -/
def k15 : Class := { plain "java/util/Collections" (some 0) with
  accessFlags := 33
  interfaces := #[]
  cf := some (fileOf pool15 19 #[.nestMembers #[478, 473, 469, 434, 423, 417, 393, 390, 380, 497, 494, 491, 355, 350, 344, 338, 333, 328, 850, 852, 854, 320, 325, 856, 315, 310, 305, 300, 287, 858, 284, 281, 278, 268, 271, 265, 262, 256, 250, 245, 860, 237, 231, 223, 862, 864, 866, 868, 215, 212, 870, 206, 872, 198, 190, 182, 174, 166, 874, 442, 387, 384]] #[{ accessFlags := 2, nameIndex := 5, descriptorIndex := 6, attributes := #[] }] 33 2 #[] #[{ accessFlags := 26, nameIndex := 500, descriptorIndex := 501, attributes := #[] }, { accessFlags := 26, nameIndex := 504, descriptorIndex := 501, attributes := #[] }, { accessFlags := 26, nameIndex := 506, descriptorIndex := 501, attributes := #[] }, { accessFlags := 26, nameIndex := 508, descriptorIndex := 501, attributes := #[] }, { accessFlags := 26, nameIndex := 510, descriptorIndex := 501, attributes := #[] }, { accessFlags := 26, nameIndex := 512, descriptorIndex := 501, attributes := #[] }, { accessFlags := 26, nameIndex := 514, descriptorIndex := 501, attributes := #[] }, { accessFlags := 26, nameIndex := 516, descriptorIndex := 501, attributes := #[] }, { accessFlags := 10, nameIndex := 84, descriptorIndex := 85, attributes := #[] }, { accessFlags := 25, nameIndex := 362, descriptorIndex := 363, attributes := #[] }, { accessFlags := 25, nameIndex := 370, descriptorIndex := 371, attributes := #[] }, { accessFlags := 25, nameIndex := 374, descriptorIndex := 375, attributes := #[] }])
  fields := #[{ name := "BINARYSEARCH_THRESHOLD", type := .int, accessFlags := 26, slot := 0, constantValue := 0 }, { name := "REVERSE_THRESHOLD", type := .int, accessFlags := 26, slot := 1, constantValue := 0 }, { name := "SHUFFLE_THRESHOLD", type := .int, accessFlags := 26, slot := 2, constantValue := 0 }, { name := "FILL_THRESHOLD", type := .int, accessFlags := 26, slot := 3, constantValue := 0 }, { name := "ROTATE_THRESHOLD", type := .int, accessFlags := 26, slot := 4, constantValue := 0 }, { name := "COPY_THRESHOLD", type := .int, accessFlags := 26, slot := 5, constantValue := 0 }, { name := "REPLACEALL_THRESHOLD", type := .int, accessFlags := 26, slot := 6, constantValue := 0 }, { name := "INDEXOFSUBLIST_THRESHOLD", type := .int, accessFlags := 26, slot := 7, constantValue := 0 }, { name := "r", type := (.object "java/util/Random"), accessFlags := 10, slot := 8, constantValue := 0 }, { name := "EMPTY_SET", type := (.object "java/util/Set"), accessFlags := 25, slot := 9, constantValue := 0 }, { name := "EMPTY_LIST", type := (.object "java/util/List"), accessFlags := 25, slot := 10, constantValue := 0 }, { name := "EMPTY_MAP", type := (.object "java/util/Map"), accessFlags := 25, slot := 11, constantValue := 0 }]
  methods := #[k15m0]
  instanceTypes := #[]
  staticTypes := #[.int, .int, .int, .int, .int, .int, .int, .int, (.object "java/util/Random"), (.object "java/util/Set"), (.object "java/util/List"), (.object "java/util/Map")]
  resolved := Array.replicate 933 none
  statics := some 4 }

def pool16 : Array CpInfo := pool [(2, .class_ 4), (1, u "java/lang/Object"), (0, u "<init>"), (0, u "()V"), (17, .class_ 26), (1, u "jdk/internal/util/Preconditions"), (28, .class_ 56), (0, u "jdk/internal/util/Preconditions$4"), (57, .class_ 115), (0, u "jdk/internal/util/Preconditions$1"), (7, u "SIOOBE_FORMATTER"), (0, u "Ljava/util/function/BiFunction;"), (0, .class_ 126), (0, u "jdk/internal/util/Preconditions$2"), (3, u "AIOOBE_FORMATTER"), (0, .class_ 132), (0, u "jdk/internal/util/Preconditions$3"), (3, u "IOOBE_FORMATTER")] 57

def k16m0 : Method := { name := "<init>", desc := "()V", sig := { parameters := [], returnType := none }, accessFlags := 1, code := none }
/-- jdk/internal/util/Preconditions -/
def k16 : Class := { plain "jdk/internal/util/Preconditions" (some 0) with
  accessFlags := 33
  interfaces := #[]
  cf := some (fileOf pool16 24 #[.nestMembers #[55, 131, 125, 114]] #[{ accessFlags := 1, nameIndex := 5, descriptorIndex := 6, attributes := #[] }] 33 2 #[] #[{ accessFlags := 25, nameIndex := 123, descriptorIndex := 124, attributes := #[] }, { accessFlags := 25, nameIndex := 130, descriptorIndex := 124, attributes := #[] }, { accessFlags := 25, nameIndex := 136, descriptorIndex := 124, attributes := #[] }])
  fields := #[{ name := "SIOOBE_FORMATTER", type := (.object "java/util/function/BiFunction"), accessFlags := 25, slot := 0, constantValue := 0 }, { name := "AIOOBE_FORMATTER", type := (.object "java/util/function/BiFunction"), accessFlags := 25, slot := 1, constantValue := 0 }, { name := "IOOBE_FORMATTER", type := (.object "java/util/function/BiFunction"), accessFlags := 25, slot := 2, constantValue := 0 }]
  methods := #[k16m0]
  instanceTypes := #[]
  staticTypes := #[(.object "java/util/function/BiFunction"), (.object "java/util/function/BiFunction"), (.object "java/util/function/BiFunction")]
  resolved := Array.replicate 194 none
  statics := some 5 }

def pool17 : Array CpInfo := pool [(9, u "<init>"), (6, .class_ 18), (1, u "java/lang/Object"), (0, u "()V"), (1, .class_ 23), (1, u "jdk/internal/util/ArraysSupport"), (0, u "LOG2_ARRAY_LONG_INDEX_SCALE"), (0, u "I"), (2, u "U"), (0, u "Ljdk/internal/misc/Unsafe;"), (8, u "BIG_ENDIAN"), (0, u "Z"), (8, u "LOG2_BYTE_BIT_SIZE"), (4, u "LOG2_ARRAY_INT_INDEX_SCALE"), (54, u "JLA"), (0, u "Ljdk/internal/access/JavaLangAccess;"), (11, u "LOG2_ARRAY_BOOLEAN_INDEX_SCALE"), (9, u "LOG2_ARRAY_BYTE_INDEX_SCALE"), (5, u "LOG2_ARRAY_CHAR_INDEX_SCALE"), (5, u "LOG2_ARRAY_SHORT_INDEX_SCALE"), (18, u "LOG2_ARRAY_FLOAT_INDEX_SCALE"), (24, u "LOG2_ARRAY_DOUBLE_INDEX_SCALE"), (89, u "T_BOOLEAN"), (2, u "T_CHAR"), (1, u "T_FLOAT"), (1, u "T_DOUBLE"), (1, u "T_BYTE"), (1, u "T_SHORT"), (1, u "T_INT"), (1, u "T_LONG"), (1, u "SOFT_MAX_ARRAY_LENGTH")] 83

def k17m0 : Method := { name := "<init>", desc := "()V", sig := { parameters := [], returnType := none }, accessFlags := 2, code := none }
/-- jdk/internal/util/ArraysSupport -/
def k17 : Class := { plain "jdk/internal/util/ArraysSupport" (some 0) with
  accessFlags := 33
  interfaces := #[]
  cf := some (fileOf pool17 21 #[] #[{ accessFlags := 2, nameIndex := 9, descriptorIndex := 19, attributes := #[] }] 33 16 #[] #[{ accessFlags := 24, nameIndex := 28, descriptorIndex := 29, attributes := #[] }, { accessFlags := 26, nameIndex := 38, descriptorIndex := 39, attributes := #[] }, { accessFlags := 25, nameIndex := 121, descriptorIndex := 25, attributes := #[] }, { accessFlags := 25, nameIndex := 131, descriptorIndex := 25, attributes := #[] }, { accessFlags := 25, nameIndex := 137, descriptorIndex := 25, attributes := #[] }, { accessFlags := 25, nameIndex := 143, descriptorIndex := 25, attributes := #[] }, { accessFlags := 25, nameIndex := 53, descriptorIndex := 25, attributes := #[] }, { accessFlags := 25, nameIndex := 24, descriptorIndex := 25, attributes := #[] }, { accessFlags := 25, nameIndex := 162, descriptorIndex := 25, attributes := #[] }, { accessFlags := 25, nameIndex := 187, descriptorIndex := 25, attributes := #[] }, { accessFlags := 26, nameIndex := 48, descriptorIndex := 25, attributes := #[] }, { accessFlags := 25, nameIndex := 277, descriptorIndex := 25, attributes := #[] }, { accessFlags := 25, nameIndex := 280, descriptorIndex := 25, attributes := #[] }, { accessFlags := 25, nameIndex := 282, descriptorIndex := 25, attributes := #[] }, { accessFlags := 25, nameIndex := 284, descriptorIndex := 25, attributes := #[] }, { accessFlags := 25, nameIndex := 286, descriptorIndex := 25, attributes := #[] }, { accessFlags := 25, nameIndex := 288, descriptorIndex := 25, attributes := #[] }, { accessFlags := 25, nameIndex := 290, descriptorIndex := 25, attributes := #[] }, { accessFlags := 25, nameIndex := 292, descriptorIndex := 25, attributes := #[] }, { accessFlags := 26, nameIndex := 108, descriptorIndex := 109, attributes := #[] }, { accessFlags := 25, nameIndex := 294, descriptorIndex := 25, attributes := #[] }])
  fields := #[{ name := "U", type := (.object "jdk/internal/misc/Unsafe"), accessFlags := 24, slot := 0, constantValue := 0 }, { name := "BIG_ENDIAN", type := .boolean, accessFlags := 26, slot := 1, constantValue := 0 }, { name := "LOG2_ARRAY_BOOLEAN_INDEX_SCALE", type := .int, accessFlags := 25, slot := 2, constantValue := 0 }, { name := "LOG2_ARRAY_BYTE_INDEX_SCALE", type := .int, accessFlags := 25, slot := 3, constantValue := 0 }, { name := "LOG2_ARRAY_CHAR_INDEX_SCALE", type := .int, accessFlags := 25, slot := 4, constantValue := 0 }, { name := "LOG2_ARRAY_SHORT_INDEX_SCALE", type := .int, accessFlags := 25, slot := 5, constantValue := 0 }, { name := "LOG2_ARRAY_INT_INDEX_SCALE", type := .int, accessFlags := 25, slot := 6, constantValue := 0 }, { name := "LOG2_ARRAY_LONG_INDEX_SCALE", type := .int, accessFlags := 25, slot := 7, constantValue := 0 }, { name := "LOG2_ARRAY_FLOAT_INDEX_SCALE", type := .int, accessFlags := 25, slot := 8, constantValue := 0 }, { name := "LOG2_ARRAY_DOUBLE_INDEX_SCALE", type := .int, accessFlags := 25, slot := 9, constantValue := 0 }, { name := "LOG2_BYTE_BIT_SIZE", type := .int, accessFlags := 26, slot := 10, constantValue := 0 }, { name := "T_BOOLEAN", type := .int, accessFlags := 25, slot := 11, constantValue := 0 }, { name := "T_CHAR", type := .int, accessFlags := 25, slot := 12, constantValue := 0 }, { name := "T_FLOAT", type := .int, accessFlags := 25, slot := 13, constantValue := 0 }, { name := "T_DOUBLE", type := .int, accessFlags := 25, slot := 14, constantValue := 0 }, { name := "T_BYTE", type := .int, accessFlags := 25, slot := 15, constantValue := 0 }, { name := "T_SHORT", type := .int, accessFlags := 25, slot := 16, constantValue := 0 }, { name := "T_INT", type := .int, accessFlags := 25, slot := 17, constantValue := 0 }, { name := "T_LONG", type := .int, accessFlags := 25, slot := 18, constantValue := 0 }, { name := "JLA", type := (.object "jdk/internal/access/JavaLangAccess"), accessFlags := 26, slot := 19, constantValue := 0 }, { name := "SOFT_MAX_ARRAY_LENGTH", type := .int, accessFlags := 25, slot := 20, constantValue := 0 }]
  methods := #[k17m0]
  instanceTypes := #[]
  staticTypes := #[(.object "jdk/internal/misc/Unsafe"), .boolean, .int, .int, .int, .int, .int, .int, .int, .int, .int, .int, .int, .int, .int, .int, .int, .int, .int, (.object "jdk/internal/access/JavaLangAccess"), .int]
  resolved := Array.replicate 378 none
  statics := none }

def pool18 : Array CpInfo := pool [(8, .class_ 10), (1, u "java/lang/Iterable"), (24, .class_ 36), (0, u "java/lang/Object")] 25

/-- java/lang/Iterable -/
def k18 : Class := { plain "java/lang/Iterable" (some 0) with
  accessFlags := 1537
  interfaces := #[]
  cf := some (fileOf pool18 8 #[] #[] 1537 35 #[] #[])
  fields := #[]
  methods := #[]
  instanceTypes := #[]
  staticTypes := #[]
  resolved := Array.replicate 62 none
  statics := none }

def pool19 : Array CpInfo := pool [(10, .class_ 12), (1, u "java/util/Collection"), (47, .class_ 61), (0, u "java/lang/Object"), (0, .class_ 63), (0, u "java/lang/Iterable")] 51

/-- java/util/Collection -/
def k19 : Class := { plain "java/util/Collection" (some 0) with
  accessFlags := 1537
  interfaces := #[18]
  cf := some (fileOf pool19 10 #[] #[] 1537 60 #[62] #[])
  fields := #[]
  methods := #[]
  instanceTypes := #[]
  staticTypes := #[]
  resolved := Array.replicate 115 none
  statics := none }

def pool20 : Array CpInfo := pool [(2, .class_ 4), (1, u "java/lang/Object"), (0, u "<init>"), (0, u "()V"), (1, .class_ 10), (1, u "java/util/AbstractCollection"), (66, .class_ 78), (0, u "java/util/Collection")] 81

def k20m0 : Method := { name := "<init>", desc := "()V", sig := { parameters := [], returnType := none }, accessFlags := 4, code := none }
/-- java/util/AbstractCollection -/
def k20 : Class := { plain "java/util/AbstractCollection" (some 0) with
  accessFlags := 1057
  interfaces := #[19]
  cf := some (fileOf pool20 8 #[] #[{ accessFlags := 4, nameIndex := 5, descriptorIndex := 6, attributes := #[] }] 1057 2 #[77] #[])
  fields := #[]
  methods := #[k20m0]
  instanceTypes := #[]
  staticTypes := #[]
  resolved := Array.replicate 160 none
  statics := none }

def pool21 : Array CpInfo := pool [(8, .class_ 10), (1, u "java/util/SequencedCollection"), (15, .class_ 27), (0, u "java/lang/Object"), (0, .class_ 29), (0, u "java/util/Collection")] 27

/-- java/util/SequencedCollection -/
def k21 : Class := { plain "java/util/SequencedCollection" (some 0) with
  accessFlags := 1537
  interfaces := #[19]
  cf := some (fileOf pool21 8 #[] #[] 1537 26 #[28] #[])
  fields := #[]
  methods := #[]
  instanceTypes := #[]
  staticTypes := #[]
  resolved := Array.replicate 57 none
  statics := none }

def pool22 : Array CpInfo := pool [(8, .class_ 10), (1, u "java/util/List"), (92, .class_ 104), (0, u "java/lang/Object"), (15, .class_ 121), (0, u "java/util/SequencedCollection")] 129

/-- java/util/List -/
def k22 : Class := { plain "java/util/List" (some 0) with
  accessFlags := 1537
  interfaces := #[21]
  cf := some (fileOf pool22 8 #[] #[] 1537 103 #[120] #[])
  fields := #[]
  methods := #[]
  instanceTypes := #[]
  staticTypes := #[]
  resolved := Array.replicate 251 none
  statics := none }

def pool23 : Array CpInfo := pool [(2, .class_ 4), (1, u "java/util/AbstractCollection"), (0, u "<init>"), (0, u "()V"), (1, .class_ 10), (1, u "java/util/AbstractList"), (0, u "modCount"), (0, u "I"), (64, .class_ 78), (0, u "java/util/AbstractList$Itr"), (3, .class_ 83), (0, u "java/util/AbstractList$ListItr"), (9, .class_ 94), (0, u "java/util/AbstractList$RandomAccessSubList"), (3, .class_ 99), (0, u "java/util/AbstractList$SubList"), (33, .class_ 134), (0, u "java/util/List"), (73, .class_ 209), (0, u "java/util/AbstractList$SubList$1"), (0, .class_ 211), (0, u "java/util/AbstractList$RandomAccessSpliterator")] 6

def k23m0 : Method := { name := "<init>", desc := "()V", sig := { parameters := [], returnType := none }, accessFlags := 4, code := none }
/-- java/util/AbstractList -/
def k23 : Class := { plain "java/util/AbstractList" (some 20) with
  accessFlags := 1057
  interfaces := #[22]
  cf := some (fileOf pool23 8 #[.nestMembers #[93, 98, 208, 210, 82, 77]] #[{ accessFlags := 4, nameIndex := 5, descriptorIndex := 6, attributes := #[] }] 1057 2 #[133] #[{ accessFlags := 132, nameIndex := 11, descriptorIndex := 12, attributes := #[] }])
  fields := #[{ name := "modCount", type := .int, accessFlags := 132, slot := 0, constantValue := 0 }]
  methods := #[k23m0]
  instanceTypes := #[.int]
  staticTypes := #[]
  resolved := Array.replicate 218 none
  statics := none }

def pool24 : Array CpInfo := pool [(1, .class_ 2), (0, u "java/util/RandomAccess"), (0, .class_ 4), (0, u "java/lang/Object")] 2

/-- java/util/RandomAccess -/
def k24 : Class := { plain "java/util/RandomAccess" (some 0) with
  accessFlags := 1537
  interfaces := #[]
  cf := some (fileOf pool24 1 #[] #[] 1537 3 #[] #[])
  fields := #[]
  methods := #[]
  instanceTypes := #[]
  staticTypes := #[]
  resolved := Array.replicate 7 none
  statics := none }

def pool25 : Array CpInfo := pool [(2, .class_ 4), (1, u "java/util/AbstractList"), (0, u "<init>"), (0, u "()V"), (1, .class_ 10), (1, u "java/util/Collections"), (54, .class_ 66), (0, u "java/util/Collections$EmptyList"), (0, .class_ 68), (0, u "java/util/RandomAccess"), (0, .class_ 70), (0, u "java/io/Serializable"), (0, u "serialVersionUID"), (0, u "J")] 77

def k25m0 : Method := { name := "<init>", desc := "()V", sig := { parameters := [], returnType := none }, accessFlags := 2, code := none }
/-- java/util/Collections$EmptyList -/
def k25 : Class := { plain "java/util/Collections$EmptyList" (some 23) with
  accessFlags := 32
  interfaces := #[24, 2]
  cf := some (fileOf pool25 65 #[.nestHost 8] #[{ accessFlags := 2, nameIndex := 5, descriptorIndex := 6, attributes := #[] }] 32 2 #[67, 69] #[{ accessFlags := 26, nameIndex := 71, descriptorIndex := 72, attributes := #[] }])
  fields := #[{ name := "serialVersionUID", type := .long, accessFlags := 26, slot := 0, constantValue := 0 }]
  methods := #[k25m0]
  instanceTypes := #[.int]
  staticTypes := #[.long]
  resolved := Array.replicate 150 none
  statics := none }

def pool26 : Array CpInfo := pool [(2, .class_ 4), (1, u "java/lang/StackTraceElement"), (0, u "<init>"), (2, .class_ 10), (1, u "java/lang/Object"), (0, u "()V"), (2, u "format"), (0, u "B"), (2, u "classLoaderName"), (0, u "Ljava/lang/String;"), (2, u "moduleName"), (2, u "moduleVersion"), (12, u "declaringClass"), (4, u "methodName"), (2, u "fileName"), (2, u "lineNumber"), (0, u "I"), (65, u "declaringClassObject"), (0, u "Ljava/lang/Class;"), (33, .class_ 153), (1, u "java/lang/StackTraceElement$HashedModules"), (17, .class_ 172), (0, u "java/io/Serializable"), (0, u "NATIVE_METHOD"), (1, u "UNKNOWN_SOURCE"), (2, u "BUILTIN_CLASS_LOADER"), (1, u "JDK_NON_UPGRADEABLE_MODULE"), (1, u "serialVersionUID"), (0, u "J")] 51

def k26m0 : Method := { name := "<init>", desc := "()V", sig := { parameters := [], returnType := none }, accessFlags := 2, code := none }
/-- java/lang/StackTraceElement -/
def k26 : Class := { plain "java/lang/StackTraceElement" (some 0) with
  accessFlags := 49
  interfaces := #[2]
  cf := some (fileOf pool26 2 #[.nestMembers #[151]] #[{ accessFlags := 2, nameIndex := 5, descriptorIndex := 11, attributes := #[] }] 49 8 #[171] #[{ accessFlags := 26, nameIndex := 173, descriptorIndex := 19, attributes := #[] }, { accessFlags := 26, nameIndex := 175, descriptorIndex := 19, attributes := #[] }, { accessFlags := 130, nameIndex := 116, descriptorIndex := 117, attributes := #[] }, { accessFlags := 2, nameIndex := 18, descriptorIndex := 19, attributes := #[] }, { accessFlags := 2, nameIndex := 22, descriptorIndex := 19, attributes := #[] }, { accessFlags := 2, nameIndex := 25, descriptorIndex := 19, attributes := #[] }, { accessFlags := 2, nameIndex := 38, descriptorIndex := 19, attributes := #[] }, { accessFlags := 2, nameIndex := 43, descriptorIndex := 19, attributes := #[] }, { accessFlags := 2, nameIndex := 46, descriptorIndex := 19, attributes := #[] }, { accessFlags := 2, nameIndex := 49, descriptorIndex := 50, attributes := #[] }, { accessFlags := 2, nameIndex := 14, descriptorIndex := 15, attributes := #[] }, { accessFlags := 26, nameIndex := 178, descriptorIndex := 15, attributes := #[] }, { accessFlags := 26, nameIndex := 180, descriptorIndex := 15, attributes := #[] }, { accessFlags := 26, nameIndex := 182, descriptorIndex := 183, attributes := #[] }])
  fields := #[{ name := "NATIVE_METHOD", type := (.object "java/lang/String"), accessFlags := 26, slot := 0, constantValue := 0 }, { name := "UNKNOWN_SOURCE", type := (.object "java/lang/String"), accessFlags := 26, slot := 1, constantValue := 0 }, { name := "declaringClassObject", type := (.object "java/lang/Class"), accessFlags := 130, slot := 0, constantValue := 0 }, { name := "classLoaderName", type := (.object "java/lang/String"), accessFlags := 2, slot := 1, constantValue := 0 }, { name := "moduleName", type := (.object "java/lang/String"), accessFlags := 2, slot := 2, constantValue := 0 }, { name := "moduleVersion", type := (.object "java/lang/String"), accessFlags := 2, slot := 3, constantValue := 0 }, { name := "declaringClass", type := (.object "java/lang/String"), accessFlags := 2, slot := 4, constantValue := 0 }, { name := "methodName", type := (.object "java/lang/String"), accessFlags := 2, slot := 5, constantValue := 0 }, { name := "fileName", type := (.object "java/lang/String"), accessFlags := 2, slot := 6, constantValue := 0 }, { name := "lineNumber", type := .int, accessFlags := 2, slot := 7, constantValue := 0 }, { name := "format", type := .byte, accessFlags := 2, slot := 8, constantValue := 0 }, { name := "BUILTIN_CLASS_LOADER", type := .byte, accessFlags := 26, slot := 2, constantValue := 0 }, { name := "JDK_NON_UPGRADEABLE_MODULE", type := .byte, accessFlags := 26, slot := 3, constantValue := 0 }, { name := "serialVersionUID", type := .long, accessFlags := 26, slot := 4, constantValue := 0 }]
  methods := #[k26m0]
  instanceTypes := #[(.object "java/lang/Class"), (.object "java/lang/String"), (.object "java/lang/String"), (.object "java/lang/String"), (.object "java/lang/String"), (.object "java/lang/String"), (.object "java/lang/String"), .int, .byte]
  staticTypes := #[(.object "java/lang/String"), (.object "java/lang/String"), .byte, .byte, .long]
  resolved := Array.replicate 235 none
  statics := none }

def pool27 : Array CpInfo := pool [(1, u "java/lang/Cloneable"), (0, .class_ 1), (0, u "java/lang/Object"), (0, .class_ 3)] 3

/-- java/lang/Cloneable -/
def k27 : Class := { plain "java/lang/Cloneable" (some 0) with
  accessFlags := 1537
  interfaces := #[]
  cf := some (fileOf pool27 2 #[] #[] 1537 4 #[] #[])
  fields := #[]
  methods := #[]
  instanceTypes := #[]
  staticTypes := #[]
  resolved := Array.replicate 8 none
  statics := none }

/-- the primitive byte -/
def k28 : Class := { plain "byte" none with kind := .primitive 'B', accessFlags := 0x411 }
/-- [B -/
def k29 : Class := { plain "[B" (some 0) with kind := .array 28 .byte, interfaces := #[27, 2], accessFlags := 1041 }

/-- the primitive char -/
def k30 : Class := { plain "char" none with kind := .primitive 'C', accessFlags := 0x411 }
/-- [C -/
def k31 : Class := { plain "[C" (some 0) with kind := .array 30 .char, interfaces := #[27, 2], accessFlags := 1041 }

/-- the primitive int -/
def k32 : Class := { plain "int" none with kind := .primitive 'I', accessFlags := 0x411 }
/-- [I -/
def k33 : Class := { plain "[I" (some 0) with kind := .array 32 .int, interfaces := #[27, 2], accessFlags := 1041 }

/-- [Ljava/lang/Object; -/
def k34 : Class := { plain "[Ljava/lang/Object;" (some 0) with kind := .array 0 (.object "java/lang/Object"), interfaces := #[27, 2], accessFlags := 1041 }

/-- [Ljava/lang/StackTraceElement; -/
def k35 : Class := { plain "[Ljava/lang/StackTraceElement;" (some 0) with kind := .array 26 (.object "java/lang/StackTraceElement"), interfaces := #[27, 2], accessFlags := 1041 }

/-- [Ljava/lang/Throwable; -/
def k36 : Class := { plain "[Ljava/lang/Throwable;" (some 0) with kind := .array 3 (.object "java/lang/Throwable"), interfaces := #[27, 2], accessFlags := 1041 }

def heap : Heap := #[{ cls := 3, slots := #[.long 0, .ref 7, .ref 8, .null, .null, .null, .null, .ref 9, .int 1], vm := .statics 3 },
  { cls := 9, slots := #[.null, .null, .ref 6, .null, .null, .null, .null, .null], vm := .statics 9 },
  { cls := 12, slots := #[.long 0, .int 1, .null, .int 0, .null, .int 0, .int 0], vm := .statics 12 },
  { cls := 13, slots := #[.int 0, .int 8, .int 0, .int 1], vm := .statics 13 },
  { cls := 15, slots := #[.int 0, .int 0, .int 0, .int 0, .int 0, .int 0, .int 0, .int 0, .null, .null, .ref 8, .null], vm := .statics 15 },
  { cls := 16, slots := #[.null, .null, .null], vm := .statics 16 },
  { cls := 9, slots := #[.null, .int 0, .int 0, .int 2], vm := .none },
  { cls := 35, slots := #[], vm := .none },
  { cls := 25, slots := #[.int 0], vm := .none },
  { cls := 36, slots := #[], vm := .none }]
def classes : Array Class := #[k0, k1, k2, k3, k4, k5, k6, k7, k8, k9, k10, k11, k12, k13, k14, k15, k16, k17, k18, k19, k20, k21, k22, k23, k24, k25, k26, k27, k28, k29, k30, k31, k32, k33, k34, k35, k36]
def interned : List (Array UInt16 × Addr) := []
def slotsUsed : Nat := 48
def theMethod : MethodId := ⟨1, 2⟩
def args0 : Array Value := #[.int 5, .int 66, .int 67, .int 68]
def aboutOver (below : List Frame) : State where
  vm := { classes := classes, interned := interned.toArray }
  heap := heap
  slotsUsed := slotsUsed
  threads := #[{ frames := .invoking theMethod args0 :: below }]
def below0 : List Frame := [.native { method := ⟨0, 0⟩, args := #[] }]
def about1 : State := aboutOver below0
def p0 : Program := .bare "" "" ""
def e0 : Env := launch0.env 0 0 0
theorem w_frames : about1.frames = Frame.invoking theMethod args0 :: below0 := rfl
set_option maxRecDepth 65536 in
theorem w_args : argsFit about1.vm theMethod args0 = true := by decide +kernel
set_option maxRecDepth 65536 in
theorem w_heap : heapFits about1 = true := by decide +kernel
set_option maxRecDepth 65536 in
theorem w_runnable : about1.curStatus? = some .runnable := by decide +kernel
set_option maxRecDepth 65536 in
theorem w_alone : about1.alone = true := by decide +kernel
set_option maxRecDepth 65536 in
theorem w_named : about1.methodNamed? x = some theMethod := by decide +kernel
set_option maxRecDepth 65536 in
theorem w_hears : about1.hears theMethod below0 = true := by decide +kernel
set_option maxRecDepth 65536 in
theorem w_ripe : about1.ripe theMethod args0 below0 = true := by decide +kernel
theorem w_running : about1.status = .running := rfl
set_option maxRecDepth 65536 in
theorem w_room : about1.hasRoom e0.platform room_1 = true :=
  launch0.hasRoom_least _ room_1 (by decide +kernel) (by decide +kernel) (by decide +kernel) (by decide +kernel) (by decide +kernel) (by decide +kernel)
theorem allAtoms_all (ts : List Jvm.Cond) (a : Array Jvm.Value) (st : Jvm.State) : (allAtoms ts).before a st = ts.all (fun c => c.before a st) := by
  induction ts with
  | nil => rfl
  | cons c t ih =>
    show (Jvm.Cond.and c (allAtoms t)).before a st = _
    rw [Jvm.Cond.before_and, ih, List.all_cons]
def words1 : List Jvm.Cond := Jvm.Cond.code x code maxLocals ret :: tables_1
/-- a 'code' word, met by the world's own term for the bytes: nothing is compared byte by byte -/
theorem code_word {y : MethodName} {bytes : ByteArray} {mx : Nat} {rt : Option FieldType} {a : Array Value} {s : State} {m : MethodId} {meth : Method} {c : Code} (h1 : s.methodNamed? y = some m) (h2 : s.vm.method? m = some meth) (h3 : meth.code = some c) (h4 : c.code = bytes)
    (h5 : (c.maxLocals == mx && c.exceptionTable.isEmpty && decide (c.maxStack ≤ mostOperands) && decide (meth.sig.returnType = rt) && !meth.locks && decide (parseMethodDescriptor y.desc = some meth.sig)) = true) : (Jvm.Cond.code y bytes mx rt).before a s = true := by
  simp only [Bool.and_eq_true, beq_iff_eq, Bool.not_eq_true', decide_eq_true_eq] at h5
  obtain ⟨⟨⟨⟨⟨g1, g2⟩, g3⟩, g4⟩, g5⟩, g6⟩ := h5
  simp [Cond.before, Cond.holds, Cond.value, h1, h2, h3, h4, g1, g2, g3, g4, g5, g6]
def isCode : Jvm.Cond → Bool
  | .code _ _ _ _ => true
  | _ => false
theorem all_split {L : List Jvm.Cond} {P : Jvm.Cond → Bool} (h1 : L.all (fun c => isCode c || P c) = true) (h2 : ∀ c ∈ L.filter isCode, P c = true) : L.all P = true := by
  refine List.all_eq_true.mpr fun c hc => ?_
  have h := List.all_eq_true.mp h1 c hc
  rcases Bool.eq_false_or_eq_true (isCode c) with hi | hi
  · exact h2 c (List.mem_filter.mpr ⟨hc, hi⟩)
  · simpa [hi] using h
set_option maxRecDepth 65536 in
theorem w_c0 : (Jvm.Cond.code x code maxLocals ret).before args0 about1 = true := code_word (m := ⟨1, 2⟩) (meth := k1m2) (c := k1c2) (by decide +kernel) rfl rfl rfl (by decide +kernel)
set_option maxRecDepth 65536 in
theorem w_c1 : (Jvm.Cond.code ({ cls := "com/example/portunus/portunus/CommandFailure", name := "usage", desc := "(Ljava/lang/String;)Lcom/example/portunus/portunus/CommandFailure;" } : Jvm.MethodName) prog_3_method_2_code (1 : Nat) (Option.some (Jvm.ClassFile.FieldType.object "com/example/portunus/portunus/CommandFailure"))).before args0 about1 = true := code_word (m := ⟨5, 1⟩) (meth := k5m1) (c := k5c1) (by decide +kernel) rfl rfl rfl (by decide +kernel)
set_option maxRecDepth 65536 in
theorem w_c2 : (Jvm.Cond.code ({ cls := "com/example/portunus/portunus/CommandFailure", name := "<init>", desc := "(Lcom/example/portunus/portunus/ExitCode;Ljava/lang/String;)V" } : Jvm.MethodName) prog_3_method_1_code (3 : Nat) (Option.none : Option Jvm.ClassFile.FieldType)).before args0 about1 = true := code_word (m := ⟨5, 0⟩) (meth := k5m0) (c := k5c0) (by decide +kernel) rfl rfl rfl (by decide +kernel)
set_option maxRecDepth 65536 in
theorem w_c3 : (Jvm.Cond.code ({ cls := "java/lang/Exception", name := "<init>", desc := "(Ljava/lang/String;)V" } : Jvm.MethodName) jdk_59_method_2_code (2 : Nat) (Option.none : Option Jvm.ClassFile.FieldType)).before args0 about1 = true := code_word (m := ⟨4, 1⟩) (meth := k4m1) (c := k4c1) (by decide +kernel) rfl rfl rfl (by decide +kernel)
set_option maxRecDepth 65536 in
theorem w_c4 : (Jvm.Cond.code ({ cls := "java/lang/Throwable", name := "<init>", desc := "(Ljava/lang/String;)V" } : Jvm.MethodName) jdk_78_method_2_code (2 : Nat) (Option.none : Option Jvm.ClassFile.FieldType)).before args0 about1 = true := code_word (m := ⟨3, 1⟩) (meth := k3m1) (c := k3c1) (by decide +kernel) rfl rfl rfl (by decide +kernel)
set_option maxRecDepth 65536 in
theorem w_c5 : (Jvm.Cond.code ({ cls := "java/lang/Object", name := "<init>", desc := "()V" } : Jvm.MethodName) object_method_1_code (1 : Nat) (Option.none : Option Jvm.ClassFile.FieldType)).before args0 about1 = true := code_word (m := ⟨0, 0⟩) (meth := k0m0) (c := k0c0) (by decide +kernel) rfl rfl rfl (by decide +kernel)
set_option maxRecDepth 65536 in
theorem w_c6 : (Jvm.Cond.code ({ cls := "java/lang/Throwable", name := "<init>", desc := "()V" } : Jvm.MethodName) jdk_78_method_1_code (1 : Nat) (Option.none : Option Jvm.ClassFile.FieldType)).before args0 about1 = true := code_word (m := ⟨3, 0⟩) (meth := k3m0) (c := k3c0) (by decide +kernel) rfl rfl rfl (by decide +kernel)
set_option maxRecDepth 65536 in
theorem w_c7 : (Jvm.Cond.code ({ cls := "com/example/portunus/portunus/CommandFailure", name := "exitCode", desc := "()Lcom/example/portunus/portunus/ExitCode;" } : Jvm.MethodName) prog_3_method_5_code (1 : Nat) (Option.some (Jvm.ClassFile.FieldType.object "com/example/portunus/portunus/ExitCode"))).before args0 about1 = true := code_word (m := ⟨5, 2⟩) (meth := k5m2) (c := k5c2) (by decide +kernel) rfl rfl rfl (by decide +kernel)
set_option maxRecDepth 65536 in
theorem w_c8 : (Jvm.Cond.code ({ cls := "com/example/portunus/portunus/ExitCode", name := "code", desc := "()I" } : Jvm.MethodName) prog_8_method_4_code (1 : Nat) (Option.some Jvm.ClassFile.FieldType.int)).before args0 about1 = true := code_word (m := ⟨9, 0⟩) (meth := k9m0) (c := k9c0) (by decide +kernel) rfl rfl rfl (by decide +kernel)
set_option maxRecDepth 65536 in
theorem w_c9 : (Jvm.Cond.code ({ cls := "java/lang/Throwable", name := "getMessage", desc := "()Ljava/lang/String;" } : Jvm.MethodName) jdk_78_method_6_code (1 : Nat) (Option.some (Jvm.ClassFile.FieldType.object "java/lang/String"))).before args0 about1 = true := code_word (m := ⟨3, 2⟩) (meth := k3m2) (c := k3c2) (by decide +kernel) rfl rfl rfl (by decide +kernel)
set_option maxRecDepth 65536 in
theorem w_c10 : (Jvm.Cond.code ({ cls := "com/example/portunus/portunus/CommandFailureUsagePinLaw", name := "draw", desc := "(IIII)Ljava/lang/String;" } : Jvm.MethodName) method_2_code (9 : Nat) (Option.some (Jvm.ClassFile.FieldType.object "java/lang/String"))).before args0 about1 = true := code_word (m := ⟨1, 1⟩) (meth := k1m1) (c := k1c1) (by decide +kernel) rfl rfl rfl (by decide +kernel)
set_option maxRecDepth 65536 in
theorem w_c11 : (Jvm.Cond.code ({ cls := "java/lang/String", name := "<init>", desc := "([C)V" } : Jvm.MethodName) jdk_42_method_3_code (2 : Nat) (Option.none : Option Jvm.ClassFile.FieldType)).before args0 about1 = true := code_word (m := ⟨12, 1⟩) (meth := k12m1) (c := k12c1) (by decide +kernel) rfl rfl rfl (by decide +kernel)
set_option maxRecDepth 65536 in
theorem w_c12 : (Jvm.Cond.code ({ cls := "java/lang/String", name := "<init>", desc := "([CIILjava/lang/Void;)V" } : Jvm.MethodName) jdk_42_method_149_code (6 : Nat) (Option.none : Option Jvm.ClassFile.FieldType)).before args0 about1 = true := code_word (m := ⟨12, 4⟩) (meth := k12m4) (c := k12c4) (by decide +kernel) rfl rfl rfl (by decide +kernel)
set_option maxRecDepth 65536 in
theorem w_c13 : (Jvm.Cond.code ({ cls := "java/lang/String", name := "equals", desc := "(Ljava/lang/Object;)Z" } : Jvm.MethodName) jdk_42_method_66_code (3 : Nat) (Option.some Jvm.ClassFile.FieldType.boolean)).before args0 about1 = true := code_word (m := ⟨12, 2⟩) (meth := k12m2) (c := k12c2) (by decide +kernel) rfl rfl rfl (by decide +kernel)
set_option maxRecDepth 65536 in
theorem w_c14 : (Jvm.Cond.code ({ cls := "java/lang/StringUTF16", name := "compress", desc := "([CII)[B" } : Jvm.MethodName) jdk_52_method_16_code (6 : Nat) (Option.some (Jvm.ClassFile.FieldType.array Jvm.ClassFile.FieldType.byte))).before args0 about1 = true := code_word (m := ⟨13, 7⟩) (meth := k13m7) (c := k13c7) (by decide +kernel) rfl rfl rfl (by decide +kernel)
set_option maxRecDepth 65536 in
theorem w_c15 : (Jvm.Cond.code ({ cls := "java/lang/StringUTF16", name := "compress", desc := "([CI[BII)I" } : Jvm.MethodName) jdk_52_method_21_code (7 : Nat) (Option.some Jvm.ClassFile.FieldType.int)).before args0 about1 = true := code_word (m := ⟨13, 8⟩) (meth := k13m8) (c := k13c8) (by decide +kernel) rfl rfl rfl (by decide +kernel)
set_option maxRecDepth 65536 in
theorem w_c16 : (Jvm.Cond.code ({ cls := "java/lang/StringUTF16", name := "coderFromArrayLen", desc := "([BI)B" } : Jvm.MethodName) jdk_52_method_15_code (2 : Nat) (Option.some Jvm.ClassFile.FieldType.byte)).before args0 about1 = true := code_word (m := ⟨13, 6⟩) (meth := k13m6) (c := k13c6) (by decide +kernel) rfl rfl rfl (by decide +kernel)
set_option maxRecDepth 65536 in
theorem w_c17 : (Jvm.Cond.code ({ cls := "java/lang/StringUTF16", name := "toBytes", desc := "([CII)[B" } : Jvm.MethodName) jdk_52_method_14_code (5 : Nat) (Option.some (Jvm.ClassFile.FieldType.array Jvm.ClassFile.FieldType.byte))).before args0 about1 = true := code_word (m := ⟨13, 5⟩) (meth := k13m5) (c := k13c5) (by decide +kernel) rfl rfl rfl (by decide +kernel)
set_option maxRecDepth 65536 in
theorem w_c18 : (Jvm.Cond.code ({ cls := "java/lang/StringUTF16", name := "newBytesFor", desc := "(I)[B" } : Jvm.MethodName) jdk_52_method_2_code (1 : Nat) (Option.some (Jvm.ClassFile.FieldType.array Jvm.ClassFile.FieldType.byte))).before args0 about1 = true := code_word (m := ⟨13, 1⟩) (meth := k13m1) (c := k13c1) (by decide +kernel) rfl rfl rfl (by decide +kernel)
set_option maxRecDepth 65536 in
theorem w_c19 : (Jvm.Cond.code ({ cls := "java/lang/StringUTF16", name := "newBytesLength", desc := "(I)I" } : Jvm.MethodName) jdk_52_method_3_code (1 : Nat) (Option.some Jvm.ClassFile.FieldType.int)).before args0 about1 = true := code_word (m := ⟨13, 2⟩) (meth := k13m2) (c := k13c2) (by decide +kernel) rfl rfl rfl (by decide +kernel)
set_option maxRecDepth 65536 in
theorem w_c20 : (Jvm.Cond.code ({ cls := "java/lang/StringUTF16", name := "putChar", desc := "([BII)V" } : Jvm.MethodName) jdk_52_method_4_code (3 : Nat) (Option.none : Option Jvm.ClassFile.FieldType)).before args0 about1 = true := code_word (m := ⟨13, 3⟩) (meth := k13m3) (c := k13c3) (by decide +kernel) rfl rfl rfl (by decide +kernel)
set_option maxRecDepth 65536 in
theorem w_c21 : (Jvm.Cond.code ({ cls := "java/lang/StringUTF16", name := "getChar", desc := "([BI)C" } : Jvm.MethodName) jdk_52_method_5_code (2 : Nat) (Option.some Jvm.ClassFile.FieldType.char)).before args0 about1 = true := code_word (m := ⟨13, 4⟩) (meth := k13m4) (c := k13c4) (by decide +kernel) rfl rfl rfl (by decide +kernel)
set_option maxRecDepth 65536 in
theorem w_c22 : (Jvm.Cond.code ({ cls := "java/lang/String", name := "valueOf", desc := "(C)Ljava/lang/String;" } : Jvm.MethodName) jdk_42_method_139_code (1 : Nat) (Option.some (Jvm.ClassFile.FieldType.object "java/lang/String"))).before args0 about1 = true := code_word (m := ⟨12, 3⟩) (meth := k12m3) (c := k12c3) (by decide +kernel) rfl rfl rfl (by decide +kernel)
set_option maxRecDepth 65536 in
theorem w_c23 : (Jvm.Cond.code ({ cls := "java/lang/StringLatin1", name := "canEncode", desc := "(C)Z" } : Jvm.MethodName) jdk_43_method_3_code (1 : Nat) (Option.some Jvm.ClassFile.FieldType.boolean)).before args0 about1 = true := code_word (m := ⟨14, 1⟩) (meth := k14m1) (c := k14c1) (by decide +kernel) rfl rfl rfl (by decide +kernel)
set_option maxRecDepth 65536 in
theorem w_c24 : (Jvm.Cond.code ({ cls := "java/lang/StringUTF16", name := "toBytes", desc := "(C)[B" } : Jvm.MethodName) jdk_52_method_24_code (2 : Nat) (Option.some (Jvm.ClassFile.FieldType.array Jvm.ClassFile.FieldType.byte))).before args0 about1 = true := code_word (m := ⟨13, 9⟩) (meth := k13m9) (c := k13c9) (by decide +kernel) rfl rfl rfl (by decide +kernel)
set_option maxRecDepth 65536 in
theorem w_c25 : (Jvm.Cond.code ({ cls := "java/lang/String", name := "<init>", desc := "([BB)V" } : Jvm.MethodName) jdk_42_method_151_code (3 : Nat) (Option.none : Option Jvm.ClassFile.FieldType)).before args0 about1 = true := code_word (m := ⟨12, 5⟩) (meth := k12m5) (c := k12c5) (by decide +kernel) rfl rfl rfl (by decide +kernel)
set_option maxRecDepth 65536 in
theorem w_c26 : (Jvm.Cond.code ({ cls := "java/lang/StringLatin1", name := "toBytes", desc := "(C)[B" } : Jvm.MethodName) jdk_43_method_46_code (1 : Nat) (Option.some (Jvm.ClassFile.FieldType.array Jvm.ClassFile.FieldType.byte))).before args0 about1 = true := code_word (m := ⟨14, 2⟩) (meth := k14m2) (c := k14c2) (by decide +kernel) rfl rfl rfl (by decide +kernel)
def codes1 : List Jvm.Cond := [Jvm.Cond.code x code maxLocals ret, Jvm.Cond.code ({ cls := "com/example/portunus/portunus/CommandFailure", name := "usage", desc := "(Ljava/lang/String;)Lcom/example/portunus/portunus/CommandFailure;" } : Jvm.MethodName) prog_3_method_2_code (1 : Nat) (Option.some (Jvm.ClassFile.FieldType.object "com/example/portunus/portunus/CommandFailure")), Jvm.Cond.code ({ cls := "com/example/portunus/portunus/CommandFailure", name := "<init>", desc := "(Lcom/example/portunus/portunus/ExitCode;Ljava/lang/String;)V" } : Jvm.MethodName) prog_3_method_1_code (3 : Nat) (Option.none : Option Jvm.ClassFile.FieldType), Jvm.Cond.code ({ cls := "java/lang/Exception", name := "<init>", desc := "(Ljava/lang/String;)V" } : Jvm.MethodName) jdk_59_method_2_code (2 : Nat) (Option.none : Option Jvm.ClassFile.FieldType), Jvm.Cond.code ({ cls := "java/lang/Throwable", name := "<init>", desc := "(Ljava/lang/String;)V" } : Jvm.MethodName) jdk_78_method_2_code (2 : Nat) (Option.none : Option Jvm.ClassFile.FieldType), Jvm.Cond.code ({ cls := "java/lang/Object", name := "<init>", desc := "()V" } : Jvm.MethodName) object_method_1_code (1 : Nat) (Option.none : Option Jvm.ClassFile.FieldType), Jvm.Cond.code ({ cls := "java/lang/Throwable", name := "<init>", desc := "()V" } : Jvm.MethodName) jdk_78_method_1_code (1 : Nat) (Option.none : Option Jvm.ClassFile.FieldType), Jvm.Cond.code ({ cls := "com/example/portunus/portunus/CommandFailure", name := "exitCode", desc := "()Lcom/example/portunus/portunus/ExitCode;" } : Jvm.MethodName) prog_3_method_5_code (1 : Nat) (Option.some (Jvm.ClassFile.FieldType.object "com/example/portunus/portunus/ExitCode")), Jvm.Cond.code ({ cls := "com/example/portunus/portunus/ExitCode", name := "code", desc := "()I" } : Jvm.MethodName) prog_8_method_4_code (1 : Nat) (Option.some Jvm.ClassFile.FieldType.int), Jvm.Cond.code ({ cls := "java/lang/Throwable", name := "getMessage", desc := "()Ljava/lang/String;" } : Jvm.MethodName) jdk_78_method_6_code (1 : Nat) (Option.some (Jvm.ClassFile.FieldType.object "java/lang/String")), Jvm.Cond.code ({ cls := "com/example/portunus/portunus/CommandFailureUsagePinLaw", name := "draw", desc := "(IIII)Ljava/lang/String;" } : Jvm.MethodName) method_2_code (9 : Nat) (Option.some (Jvm.ClassFile.FieldType.object "java/lang/String")), Jvm.Cond.code ({ cls := "java/lang/String", name := "<init>", desc := "([C)V" } : Jvm.MethodName) jdk_42_method_3_code (2 : Nat) (Option.none : Option Jvm.ClassFile.FieldType), Jvm.Cond.code ({ cls := "java/lang/String", name := "<init>", desc := "([CIILjava/lang/Void;)V" } : Jvm.MethodName) jdk_42_method_149_code (6 : Nat) (Option.none : Option Jvm.ClassFile.FieldType), Jvm.Cond.code ({ cls := "java/lang/String", name := "equals", desc := "(Ljava/lang/Object;)Z" } : Jvm.MethodName) jdk_42_method_66_code (3 : Nat) (Option.some Jvm.ClassFile.FieldType.boolean), Jvm.Cond.code ({ cls := "java/lang/StringUTF16", name := "compress", desc := "([CII)[B" } : Jvm.MethodName) jdk_52_method_16_code (6 : Nat) (Option.some (Jvm.ClassFile.FieldType.array Jvm.ClassFile.FieldType.byte)), Jvm.Cond.code ({ cls := "java/lang/StringUTF16", name := "compress", desc := "([CI[BII)I" } : Jvm.MethodName) jdk_52_method_21_code (7 : Nat) (Option.some Jvm.ClassFile.FieldType.int), Jvm.Cond.code ({ cls := "java/lang/StringUTF16", name := "coderFromArrayLen", desc := "([BI)B" } : Jvm.MethodName) jdk_52_method_15_code (2 : Nat) (Option.some Jvm.ClassFile.FieldType.byte), Jvm.Cond.code ({ cls := "java/lang/StringUTF16", name := "toBytes", desc := "([CII)[B" } : Jvm.MethodName) jdk_52_method_14_code (5 : Nat) (Option.some (Jvm.ClassFile.FieldType.array Jvm.ClassFile.FieldType.byte)), Jvm.Cond.code ({ cls := "java/lang/StringUTF16", name := "newBytesFor", desc := "(I)[B" } : Jvm.MethodName) jdk_52_method_2_code (1 : Nat) (Option.some (Jvm.ClassFile.FieldType.array Jvm.ClassFile.FieldType.byte)), Jvm.Cond.code ({ cls := "java/lang/StringUTF16", name := "newBytesLength", desc := "(I)I" } : Jvm.MethodName) jdk_52_method_3_code (1 : Nat) (Option.some Jvm.ClassFile.FieldType.int), Jvm.Cond.code ({ cls := "java/lang/StringUTF16", name := "putChar", desc := "([BII)V" } : Jvm.MethodName) jdk_52_method_4_code (3 : Nat) (Option.none : Option Jvm.ClassFile.FieldType), Jvm.Cond.code ({ cls := "java/lang/StringUTF16", name := "getChar", desc := "([BI)C" } : Jvm.MethodName) jdk_52_method_5_code (2 : Nat) (Option.some Jvm.ClassFile.FieldType.char), Jvm.Cond.code ({ cls := "java/lang/String", name := "valueOf", desc := "(C)Ljava/lang/String;" } : Jvm.MethodName) jdk_42_method_139_code (1 : Nat) (Option.some (Jvm.ClassFile.FieldType.object "java/lang/String")), Jvm.Cond.code ({ cls := "java/lang/StringLatin1", name := "canEncode", desc := "(C)Z" } : Jvm.MethodName) jdk_43_method_3_code (1 : Nat) (Option.some Jvm.ClassFile.FieldType.boolean), Jvm.Cond.code ({ cls := "java/lang/StringUTF16", name := "toBytes", desc := "(C)[B" } : Jvm.MethodName) jdk_52_method_24_code (2 : Nat) (Option.some (Jvm.ClassFile.FieldType.array Jvm.ClassFile.FieldType.byte)), Jvm.Cond.code ({ cls := "java/lang/String", name := "<init>", desc := "([BB)V" } : Jvm.MethodName) jdk_42_method_151_code (3 : Nat) (Option.none : Option Jvm.ClassFile.FieldType), Jvm.Cond.code ({ cls := "java/lang/StringLatin1", name := "toBytes", desc := "(C)[B" } : Jvm.MethodName) jdk_43_method_46_code (1 : Nat) (Option.some (Jvm.ClassFile.FieldType.array Jvm.ClassFile.FieldType.byte))]
set_option maxRecDepth 65536 in
theorem codes_eq : words1.filter isCode = codes1 := rfl
theorem w_codes : ∀ c ∈ words1.filter isCode, c.before args0 about1 = true := by
  rw [codes_eq]
  intro c hc
  simp only [codes1, List.mem_cons, List.not_mem_nil, or_false] at hc
  rcases hc with rfl | rfl | rfl | rfl | rfl | rfl | rfl | rfl | rfl | rfl | rfl | rfl | rfl | rfl | rfl | rfl | rfl | rfl | rfl | rfl | rfl | rfl | rfl | rfl | rfl | rfl | rfl
  · exact w_c0
  · exact w_c1
  · exact w_c2
  · exact w_c3
  · exact w_c4
  · exact w_c5
  · exact w_c6
  · exact w_c7
  · exact w_c8
  · exact w_c9
  · exact w_c10
  · exact w_c11
  · exact w_c12
  · exact w_c13
  · exact w_c14
  · exact w_c15
  · exact w_c16
  · exact w_c17
  · exact w_c18
  · exact w_c19
  · exact w_c20
  · exact w_c21
  · exact w_c22
  · exact w_c23
  · exact w_c24
  · exact w_c25
  · exact w_c26
set_option maxRecDepth 65536 in
theorem w_t1 : (words1.take 24).all (fun c => isCode c || c.before args0 about1) = true := by decide +kernel
set_option maxRecDepth 65536 in
theorem w_t2 : ((words1.drop 24).take 24).all (fun c => isCode c || c.before args0 about1) = true := by decide +kernel
set_option maxRecDepth 65536 in
theorem w_t3 : (((words1.drop 24).drop 24).take 24).all (fun c => isCode c || c.before args0 about1) = true := by decide +kernel
set_option maxRecDepth 65536 in
theorem w_t4 : ((((words1.drop 24).drop 24).drop 24).take 24).all (fun c => isCode c || c.before args0 about1) = true := by decide +kernel
set_option maxRecDepth 65536 in
theorem w_t5 : (((((words1.drop 24).drop 24).drop 24).drop 24).take 24).all (fun c => isCode c || c.before args0 about1) = true := by decide +kernel
set_option maxRecDepth 65536 in
theorem w_t6 : ((((((words1.drop 24).drop 24).drop 24).drop 24).drop 24).take 24).all (fun c => isCode c || c.before args0 about1) = true := by decide +kernel
set_option maxRecDepth 65536 in
theorem w_t7 : ((((((words1.drop 24).drop 24).drop 24).drop 24).drop 24).drop 24).all (fun c => isCode c || c.before args0 about1) = true := by decide +kernel
theorem w_tables : (allAtoms (Jvm.Cond.code x code maxLocals ret :: tables_1)).before args0 about1 = true := by
  rw [allAtoms_all]
  show words1.all (fun c => c.before args0 about1) = true
  refine all_split ?_ w_codes
  rw [← List.take_append_drop 24 words1, List.all_append, w_t1, ← List.take_append_drop 24 (words1.drop 24), List.all_append, w_t2, ← List.take_append_drop 24 ((words1.drop 24).drop 24), List.all_append, w_t3, ← List.take_append_drop 24 (((words1.drop 24).drop 24).drop 24), List.all_append, w_t4, ← List.take_append_drop 24 ((((words1.drop 24).drop 24).drop 24).drop 24), List.all_append, w_t5, ← List.take_append_drop 24 (((((words1.drop 24).drop 24).drop 24).drop 24).drop 24), List.all_append, w_t6, w_t7]
  rfl
set_option maxRecDepth 65536 in
theorem w_rest : rest_1_c.before args0 about1 = true := by decide +kernel
set_option maxRecDepth 65536 in
theorem w_case : (Jvm.Cond.and given_1 narrow_1).before args0 about1 = true := by decide +kernel
set_option maxRecDepth 65536 in
theorem w_consts : constsHeld consts_1 about1 := Jvm.Lit.constsHeldB_iff.mp (by decide +kernel)
theorem w_applies : (headSpec (Jvm.Cond.code x code maxLocals ret :: tables_1) room_1).applies x e0.platform about1 = true :=
  (Spec.applies_iff w_frames).mpr ⟨w_running, w_runnable, w_alone, w_named, w_hears, w_ripe, w_room, w_tables⟩
theorem atStart : AtStart classFile x code maxLocals ret World_1 tables_1 room_1 Calls_1 rest_1 Pre_1 launch0 p0 e0 about1 theMethod args0 below0 :=
  ⟨lists_1, trivial, launch0.admits_env _ _ _, launch0.least_env, fairChoices_fair.cas, fairChoices_fair.clock, w_frames, w_args, w_heap, w_applies, ⟨(by decide +kernel : framesKnown about1 = true), ⟨(by decide +kernel : tablesKnown about1 = true), ⟨w_consts, trivial⟩⟩⟩, w_rest, w_case⟩
end start1
theorem witness_1 : WitnessClaimed_1 := ⟨start1.p0, start1.e0, start1.about1, start1.theMethod, start1.args0, start1.below0, start1.atStart⟩
end Jvm.Pilot.@@N@@
