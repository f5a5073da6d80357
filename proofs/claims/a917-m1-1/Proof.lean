import JvmDerived
import JvmDerived.Pilot.@@N@@Statement
import JvmDerived.Pilot.@@N@@Code
set_option linter.unusedVariables false
set_option linter.unusedSimpArgs false
namespace Jvm.RoadKit
open Sem ClassFile Op Lib Jvm.Stand Jvm.Free Jvm.LawKit
section New
variable {p : Program} {l : Launch} {e : Env} {R : Room} {s : State} {m : MethodId} {args : Array Value} {below : List Frame} {meth : Method} {c : Code} {T : State} {locs : List Loc} {cells slots : Nat}
theorem retI (X : Stand p l e R s m args below meth c T locs cells slots) (hx : p.tables.exec = Jvm.exec) {pc : Nat} {Ls : Array Slot} {z : Int32} {rest : List Value} (hret : meth.sig.returnType = some .int) (hd : decode c.code pc = .ok (.ireturn, 1)) {fs : List Frame}
    (hl : ∀ (f : JFrame) (acts : List Action), f.method = m → f.locked = none → f.entered = [] → (doReturn e (T.setTop f) acts (some (.int z))).1 = T.setFrames fs) : Steps p.tables e below (T.setTop (mkF m pc Ls (.int z :: rest))) (T.setFrames fs) := by
  have hm' : T.vm.method? m = some meth := X.method'
  have hn : narrow .int (.int z) = .int z := rfl
  show Steps p.tables e below (T.setTop { method := m, pc := pc, locals := Ls, stack := _ :: rest, locked := none }) _
  jvm_step X.here [X.here.top, hx, hd, hm', hret, hn]
  first | (intro acts; rw [hl _ acts rfl rfl rfl]) | rw [hl _ _ rfl rfl rfl]
  exact Steps.refl _
end New
end Jvm.RoadKit
namespace Jvm.Pilot.@@N@@
open Jvm Jvm.ClassFile Sem Op Lib Jvm.Free Jvm.Stand Jvm.LawKit Jvm.RoadKit Bundle Jvm.Pilot.@@N@@.Jvm.D
def own_R (s : State) (below : List Frame) (Q : Option Value → Heap → List Loc → Prop) (rc rs : Nat) (t : State) (o : Outcome) : Prop := t.status = .running ∧ Ended t below o ∧ ∃ v L, o = .returned v ∧ Q v t.heap L ∧ FrameEnd s o t L rc rs
def own_RW (s : State) (below : List Frame) (Q : Option Value → Heap → List Loc → Prop) (rc rs : Nat) (t : State) (o : Outcome) : Prop := t.status = .running ∧ Ended t below o ∧ ∃ v L, o = .returned v ∧ Q v t.heap L ∧ ReturnedEndW s o t L rc rs
def own_Go (p : Program) (e : Env) (below : List Frame) (Rr : State → Outcome → Prop) (S : State) : Prop := ∃ t o, Steps p.tables e below S t ∧ Rr t o
section OwnGo
variable {p : Program} {l : Launch} {e : Env} {R : Room} {s : State} {m : MethodId} {args : Array Value} {below : List Frame} {meth : Method} {c : Code} {T : State} {locs : List Loc} {cells slots : Nat} {Q : Option Value → Heap → List Loc → Prop} {rc rs : Nat} {S S' : State} {Rr : State → Outcome → Prop}
theorem own_bk (st : ∀ t, Steps p.tables e below S' t → Steps p.tables e below S t) (k : own_Go p e below Rr S') : own_Go p e below Rr S := by
  obtain ⟨t, o, h1, h2⟩ := k; exact ⟨t, o, st t h1, h2⟩
theorem own_seg (f : own_Go p e below Rr S' → own_Go p e below Rr S) (k : own_Go p e below Rr S') : own_Go p e below Rr S := f k
theorem own_tr (st : Steps p.tables e below S S') (k : own_Go p e below Rr S') : own_Go p e below Rr S := own_bk (fun t k => st.trans k) k
theorem own_retN (X : Stand p l e R s m args below meth c T locs cells slots) (hx : p.tables.exec = Jvm.exec) (hlk : meth.locks = false) {pc : Nat} {Ls : Array Slot} {z w : Int32} {t : FieldType} {rest : List Value} (hret : meth.sig.returnType = some t) (ht : t = .boolean ∨ t = .byte ∨ t = .char ∨ t = .short) (hd : decode c.code pc = .ok (.ireturn, 1)) (hz : nar t z = w)
    (hQ : Q (some (.int w)) T.heap locs) (hc : cells ≤ rc) (hs : slots ≤ rs) : own_Go p e below (own_R s below Q rc rs) (T.setTop (mkF m pc Ls (.int z :: rest))) := by
  subst hz
  obtain ⟨fs, hr, hrun, hended, hW, hsame⟩ := X.leave (v := some (.int (nar t z))) (fun h => by rw [hret] at h; cases h) hlk
  exact ⟨_, _, retN X hx hret ht hd hr, hrun, hended, _, _, rfl, hQ, ⟨_, rfl⟩, hW, hsame.mono hc hs⟩
theorem own_retNW {vm1 : Vm} {n1 : Nat} (hS : s.Since vm1 n1) (X : Stand p l e R (s.setVm vm1) m args below meth c T locs cells slots) (hn1 : n1 ≤ T.heap.size) (hx : p.tables.exec = Jvm.exec) (hlk : meth.locks = false) {pc : Nat} {Ls : Array Slot} {z w : Int32} {t : FieldType} {rest : List Value} (hret : meth.sig.returnType = some t) (ht : t = .boolean ∨ t = .byte ∨ t = .char ∨ t = .short) (hd : decode c.code pc = .ok (.ireturn, 1)) (hz : nar t z = w)
    (hQ : Q (some (.int w)) T.heap locs) (hc : cells ≤ rc) (hs : slots ≤ rs) : own_Go p e below (own_RW s below Q rc rs) (T.setTop (mkF m pc Ls (.int z :: rest))) := by
  subst hz
  obtain ⟨fs, hr, hrun, hended, hE⟩ := X.leaveW hS hn1 (v := some (.int (nar t z))) (fun h => by rw [hret] at h; cases h) hlk
  exact ⟨_, _, retN X hx hret ht hd hr, hrun, hended, _, _, rfl, hQ, hE.1, hE.2.1, hE.2.2.1, hE.2.2.2.mono hc hs⟩
theorem own_retI (X : Stand p l e R s m args below meth c T locs cells slots) (hx : p.tables.exec = Jvm.exec) (hlk : meth.locks = false) {pc : Nat} {Ls : Array Slot} {z : Int32} {rest : List Value} (hret : meth.sig.returnType = some .int) (hd : decode c.code pc = .ok (.ireturn, 1))
    (hQ : Q (some (.int z)) T.heap locs) (hc : cells ≤ rc) (hs : slots ≤ rs) : own_Go p e below (own_R s below Q rc rs) (T.setTop (mkF m pc Ls (.int z :: rest))) := by
  obtain ⟨fs, hr, hrun, hended, hW, hsame⟩ := X.leave (v := some (.int z)) (fun h => by rw [hret] at h; cases h) hlk
  exact ⟨_, _, retI X hx hret hd hr, hrun, hended, _, _, rfl, hQ, ⟨_, rfl⟩, hW, hsame.mono hc hs⟩
theorem own_retIW {vm1 : Vm} {n1 : Nat} (hS : s.Since vm1 n1) (X : Stand p l e R (s.setVm vm1) m args below meth c T locs cells slots) (hn1 : n1 ≤ T.heap.size) (hx : p.tables.exec = Jvm.exec) (hlk : meth.locks = false) {pc : Nat} {Ls : Array Slot} {z : Int32} {rest : List Value} (hret : meth.sig.returnType = some .int) (hd : decode c.code pc = .ok (.ireturn, 1))
    (hQ : Q (some (.int z)) T.heap locs) (hc : cells ≤ rc) (hs : slots ≤ rs) : own_Go p e below (own_RW s below Q rc rs) (T.setTop (mkF m pc Ls (.int z :: rest))) := by
  obtain ⟨fs, hr, hrun, hended, hE⟩ := X.leaveW hS hn1 (v := some (.int z)) (fun h => by rw [hret] at h; cases h) hlk
  exact ⟨_, _, retI X hx hret hd hr, hrun, hended, _, _, rfl, hQ, hE.1, hE.2.1, hE.2.2.1, hE.2.2.2.mono hc hs⟩
theorem own_retJ (X : Stand p l e R s m args below meth c T locs cells slots) (hx : p.tables.exec = Jvm.exec) (hlk : meth.locks = false) {pc : Nat} {Ls : Array Slot} {z : Int64} {rest : List Value} (hret : meth.sig.returnType = some .long) (hd : decode c.code pc = .ok (.lreturn, 1))
    (hQ : Q (some (.long z)) T.heap locs) (hc : cells ≤ rc) (hs : slots ≤ rs) : own_Go p e below (own_R s below Q rc rs) (T.setTop (mkF m pc Ls (.long z :: rest))) := by
  obtain ⟨fs, hr, hrun, hended, hW, hsame⟩ := X.leave (v := some (.long z)) (fun h => by rw [hret] at h; cases h) hlk
  exact ⟨_, _, retOut X hx hret rfl (Or.inr (Or.inl ⟨rfl, rfl, z, rfl⟩)) hd hr, hrun, hended, _, _, rfl, hQ, ⟨_, rfl⟩, hW, hsame.mono hc hs⟩
theorem own_retJW {vm1 : Vm} {n1 : Nat} (hS : s.Since vm1 n1) (X : Stand p l e R (s.setVm vm1) m args below meth c T locs cells slots) (hn1 : n1 ≤ T.heap.size) (hx : p.tables.exec = Jvm.exec) (hlk : meth.locks = false) {pc : Nat} {Ls : Array Slot} {z : Int64} {rest : List Value} (hret : meth.sig.returnType = some .long) (hd : decode c.code pc = .ok (.lreturn, 1))
    (hQ : Q (some (.long z)) T.heap locs) (hc : cells ≤ rc) (hs : slots ≤ rs) : own_Go p e below (own_RW s below Q rc rs) (T.setTop (mkF m pc Ls (.long z :: rest))) := by
  obtain ⟨fs, hr, hrun, hended, hE⟩ := X.leaveW hS hn1 (v := some (.long z)) (fun h => by rw [hret] at h; cases h) hlk
  exact ⟨_, _, retOut X hx hret rfl (Or.inr (Or.inl ⟨rfl, rfl, z, rfl⟩)) hd hr, hrun, hended, _, _, rfl, hQ, hE.1, hE.2.1, hE.2.2.1, hE.2.2.2.mono hc hs⟩
theorem own_retA (X : Stand p l e R s m args below meth c T locs cells slots) (hx : p.tables.exec = Jvm.exec) (hlk : meth.locks = false) {pc : Nat} {Ls : Array Slot} {w : Value} {t : FieldType} {rest : List Value} (hret : meth.sig.returnType = some t) (ht : t.isReference = true) (hw : w.isRef = true) (hn : narrow t w = w) (hd : decode c.code pc = .ok (.areturn, 1))
    (hQ : Q (some w) T.heap locs) (hc : cells ≤ rc) (hs : slots ≤ rs) : own_Go p e below (own_R s below Q rc rs) (T.setTop (mkF m pc Ls (w :: rest))) := by
  obtain ⟨fs, hr, hrun, hended, hW, hsame⟩ := X.leave (v := some w) (fun h => by rw [hret] at h; cases h) hlk
  exact ⟨_, _, retOut X hx hret hn (Or.inr (Or.inr (Or.inr (Or.inr ⟨rfl, ht, hw⟩)))) hd hr, hrun, hended, _, _, rfl, hQ, ⟨_, rfl⟩, hW, hsame.mono hc hs⟩
theorem own_retAW {vm1 : Vm} {n1 : Nat} (hS : s.Since vm1 n1) (X : Stand p l e R (s.setVm vm1) m args below meth c T locs cells slots) (hn1 : n1 ≤ T.heap.size) (hx : p.tables.exec = Jvm.exec) (hlk : meth.locks = false) {pc : Nat} {Ls : Array Slot} {w : Value} {t : FieldType} {rest : List Value} (hret : meth.sig.returnType = some t) (ht : t.isReference = true) (hw : w.isRef = true) (hn : narrow t w = w) (hd : decode c.code pc = .ok (.areturn, 1))
    (hQ : Q (some w) T.heap locs) (hc : cells ≤ rc) (hs : slots ≤ rs) : own_Go p e below (own_RW s below Q rc rs) (T.setTop (mkF m pc Ls (w :: rest))) := by
  obtain ⟨fs, hr, hrun, hended, hE⟩ := X.leaveW hS hn1 (v := some w) (fun h => by rw [hret] at h; cases h) hlk
  exact ⟨_, _, retOut X hx hret hn (Or.inr (Or.inr (Or.inr (Or.inr ⟨rfl, ht, hw⟩)))) hd hr, hrun, hended, _, _, rfl, hQ, hE.1, hE.2.1, hE.2.2.1, hE.2.2.2.mono hc hs⟩
theorem own_retV (X : Stand p l e R s m args below meth c T locs cells slots) (hx : p.tables.exec = Jvm.exec) (hlk : meth.locks = false) {pc : Nat} {Ls : Array Slot} (hret : meth.sig.returnType = none) (hd : decode c.code pc = .ok (.return_, 1))
    (hQ : Q none T.heap locs) (hc : cells ≤ rc) (hs : slots ≤ rs) : own_Go p e below (own_R s below Q rc rs) (T.setTop (mkF m pc Ls [])) := by
  obtain ⟨fs, hr, hrun, hended, hW, hsame⟩ := X.leave (v := none) (fun _ => rfl) hlk
  exact ⟨_, _, X.returnOut hx hret hd hr, hrun, hended, _, _, rfl, hQ, ⟨_, rfl⟩, hW, hsame.mono hc hs⟩
theorem own_retVW {vm1 : Vm} {n1 : Nat} (hS : s.Since vm1 n1) (X : Stand p l e R (s.setVm vm1) m args below meth c T locs cells slots) (hn1 : n1 ≤ T.heap.size) (hx : p.tables.exec = Jvm.exec) (hlk : meth.locks = false) {pc : Nat} {Ls : Array Slot} (hret : meth.sig.returnType = none) (hd : decode c.code pc = .ok (.return_, 1))
    (hQ : Q none T.heap locs) (hc : cells ≤ rc) (hs : slots ≤ rs) : own_Go p e below (own_RW s below Q rc rs) (T.setTop (mkF m pc Ls [])) := by
  obtain ⟨fs, hr, hrun, hended, hE⟩ := X.leaveW hS hn1 (v := none) (fun _ => rfl) hlk
  exact ⟨_, _, X.returnOut hx hret hd hr, hrun, hended, _, _, rfl, hQ, hE.1, hE.2.1, hE.2.2.1, hE.2.2.2.mono hc hs⟩
end OwnGo
/-- an enum constant of the start: what its static holds, its class, its ordinal -/
def own_E (Z : State) (h : Heap) (r : Addr) (C n d : String) (k : Int32) : Prop := Sta Z h C n d (.ref r) ∧ Exa Z h r C ∧ Fld Z h r "java/lang/Enum" "ordinal" "I" (.int k)
theorem own_E.ext {Z : State} {h h' : Heap} {r : Addr} {C n d : String} {k : Int32} (G : own_E Z h r C n d k) (E : Ext h h') : own_E Z h' r C n d k := ⟨G.1.ext E, G.2.1.ext E, G.2.2.ext E⟩
theorem own_E.ne {Z : State} {h : Heap} {r r' : Addr} {C n d C' n' d' : String} {k k' : Int32} (G : own_E Z h r C n d k) (G' : own_E Z h r' C' n' d' k') (q : k ≠ k') : r ≠ r' := Fld.ne G.2.2 G'.2.2 (fun e => q (Value.int.inj e))
theorem own_fldInt {args : Array Value} {s : State} {t : Term} {C n d : String} {k : Int32} {a : Addr} (h : (Jvm.Cond.eq (.field t C n d) (.int k)).value args s none s [] = some true) (ev : t.eval args s none [] s = some (.ref a)) : s.fieldOf? a C n d = some (.int k) := by
  obtain ⟨x, y, h1, h2, h3, h4⟩ := cmp_v (Or.inl h)
  have h5 : (Term.int k).eval args s none [] s = some (.int k) := Term.int_eval k
  cases h5.symm.trans h2
  obtain ⟨z, rfl⟩ := h4
  have h6 : z = k := gotT (Cond.eq_ints h1 h5) h
  subst h6
  rw [← fld_at ev]; exact h1
theorem own_eq1 {x y : Int32} (h : x = y) : if_icmp.holds .eq x y = true := (teq h).1

theorem own_rng {v d b : Int32} {D B : Int} (hd : d.toInt = D) (hb : b.toInt = B) (hD : 0 < D) (hB : 0 ≤ B) (hs : B + D < 2147483648) : B ≤ (b + (v &&& (2147483647 : Int32)) % d).toInt ∧ (b + (v &&& (2147483647 : Int32)) % d).toInt < B + D := by
  have h1 : (v &&& (2147483647 : Int32)).toInt = v.toInt % (2 ^ 31 : Nat) := c_mask v 2147483647 31 (by decide) (by decide)
  have h2 : 0 ≤ (v &&& (2147483647 : Int32)).toInt := by rw [h1]; exact Int.emod_nonneg _ (by decide)
  have h3 := (c_irem (v &&& (2147483647 : Int32)) d D hd).1 h2
  have h4 := Int.emod_nonneg (v &&& (2147483647 : Int32)).toInt (by omega : D ≠ 0)
  have h5 := Int.emod_lt_of_pos (v &&& (2147483647 : Int32)).toInt hD
  have h6 := c_iadd b ((v &&& (2147483647 : Int32)) % d)
  have h7 := rng32 (b + (v &&& (2147483647 : Int32)) % d)
  rw [hb, h3] at h6
  omega
theorem own_nlt {x y : Int32} (h : y.toInt ≤ x.toInt) : ¬ x < y := by rw [Int32.lt_iff_toInt_lt]; omega
theorem d2_0 : decode prog_8_method_1_code 0 = .ok (.aload_n 0, 1) := by decide +kernel
theorem d2_1 : decode prog_8_method_1_code 1 = .ok (.invokespecial 1, 3) := by decide +kernel
theorem d2_4 : decode prog_8_method_1_code 4 = .ok (.aload_n 0, 1) := by decide +kernel
theorem d2_5 : decode prog_8_method_1_code 5 = .ok (.iload_n 1, 1) := by decide +kernel
theorem d2_6 : decode prog_8_method_1_code 6 = .ok (.putfield 7, 3) := by decide +kernel
theorem d2_9 : decode prog_8_method_1_code 9 = .ok (.aload_n 0, 1) := by decide +kernel
theorem d2_10 : decode prog_8_method_1_code 10 = .ok (.iload_n 2, 1) := by decide +kernel
theorem d2_11 : decode prog_8_method_1_code 11 = .ok (.putfield 13, 3) := by decide +kernel
theorem d2_14 : decode prog_8_method_1_code 14 = .ok (.aload_n 0, 1) := by decide +kernel
theorem d2_15 : decode prog_8_method_1_code 15 = .ok (.iload_n 3, 1) := by decide +kernel
theorem d2_16 : decode prog_8_method_1_code 16 = .ok (.putfield 16, 3) := by decide +kernel
theorem d2_19 : decode prog_8_method_1_code 19 = .ok (.return_, 1) := by decide +kernel
theorem ef_rm2 (m : MethodId) (x0 : Addr) (x1 : Int32) (x2 : Int32) (x3 : Int32) : entryFrame m #[(.ref x0), (.int x1), (.int x2), (.int x3)] 4 = mkF m 0 #[.val (.ref x0), .val (.int x1), .val (.int x2), .val (.int x3)] [] := by first | (simp [entryFrame, mkF, argsToLocals, Value.category, maxLocals]; done) | rfl
def Q_rm2 (Z : State) (a : Addr) (x0 x1 x2 : Int32) (h0 : Heap) (n0 : Nat) (v : Option Value) (h : Heap) (L : List Loc) : Prop := v = none ∧ Fr n0 L ∧ Keep h0 h [a] ∧ Fld Z h a "com/example/portunus/portunus/KdfSettings" "memoryKiB" "I" (.int x0) ∧ Fld Z h a "com/example/portunus/portunus/KdfSettings" "passes" "I" (.int x1) ∧ Fld Z h a "com/example/portunus/portunus/KdfSettings" "lanes" "I" (.int x2)
set_option maxRecDepth 65536 in
set_option maxHeartbeats 40000000 in
theorem rm2 (l : Launch) (Z : State) (a0 : Array Value) (hw : ∀ d ∈ tables_1, d.before a0 Z = true) (ws : List Jvm.Cond) (a : Addr) (x0 x1 x2 : Int32) (h0 : Heap) (n0 : Nat) (Z0 : n0 ≤ h0.size) (E : Exa Z h0 a "com/example/portunus/portunus/KdfSettings") (ag : n0 ≤ a) (F0 : Fld Z h0 a "com/example/portunus/portunus/KdfSettings" "memoryKiB" "I" (.int 0)) (F1 : Fld Z h0 a "com/example/portunus/portunus/KdfSettings" "passes" "I" (.int 0)) (F2 : Fld Z h0 a "com/example/portunus/portunus/KdfSettings" "lanes" "I" (.int 0)) :
    MetFree l (⟨"com/example/portunus/portunus/KdfSettings", "<init>", "(III)V"⟩ : MethodName) (head1 (Jvm.Cond.code (⟨"com/example/portunus/portunus/KdfSettings", "<init>", "(III)V"⟩ : MethodName) prog_8_method_1_code 4 none :: ws) ({ frames := 1, cells := 0, slots := 0, locals := 12 } : Room)) (fun as_ U_ => as_ = #[(.ref a), (.int x0), (.int x1), (.int x2)] ∧ Z.Warmed39 U_.vm ∧ U_.heap = h0) (fun _ _ _ _ _ => True) (fun _ U_ o_ U2_ => ∃ v_ L_, o_ = .returned v_ ∧ (Q_rm2 Z a x0 x1 x2 h0 n0) v_ U2_.heap L_ ∧ FrameEnd U_ o_ U2_ L_ ({ frames := 1, cells := 0, slots := 0, locals := 12 } : Room).cells ({ frames := 1, cells := 0, slots := 0, locals := 12 } : Room).slots) := by
  refine MetFree.of_bodySF (plainFor_of_name (by first | (simp [plainName, overriddenIn]; done) | decide +kernel : plainName "com/example/portunus/portunus/KdfSettings" = true)) hisR ?_
  intro p e s m args below meth c s₁ Bd hml0 hP hK
  obtain ⟨rfl, hZ, hh⟩ := hP
  have hx := Bd.exec
  have hby := Bd.bytes
  have hlk := Bd.notSynchronized
  have hml : c.maxLocals = 4 := hml0
  have hown : s.vm.findClass "com/example/portunus/portunus/KdfSettings" = some m.cls := findClass_of_methodNamed Bd.named
  have hnm := (name_of_methodNamed Bd.named Bd.method).1
  have X0 : Stand p l e ({ frames := 1, cells := 0, slots := 0, locals := 12 } : Room) s m #[(.ref a), (.int x0), (.int x1), (.int x2)] below meth c s₁ [] 0 0 := Stand.of_body Bd
  have e0 : s₁.heap = h0 := by rw [← hh, Bd.state]; rfl
  have N0 := Fr.nil n0
  show own_Go p e below (own_R s below (Q_rm2 Z a x0 x1 x2 h0 n0) ({ frames := 1, cells := 0, slots := 0, locals := 12 } : Room).cells ({ frames := 1, cells := 0, slots := 0, locals := 12 } : Room).slots) (s₁.setTop (entryFrame m #[(.ref a), (.int x0), (.int x1), (.int x2)] 4))
  refine own_bk (S' := (s₁.setTop (mkF m 0 #[rv a, iv x0, iv x1, iv x2] []))) (fun t_ kont => castTop (ef_rm2 m (a) (x0) (x1) (x2)) kont) ?_
  refine own_bk (S' := (s₁.setTop (mkF m 1 #[rv a, iv x0, iv x1, iv x2] [(.ref a)]))) (fun t_ kont => XS.aloadN X0.here hx rfl (hb hby d2_0) rfl rfl kont) ?_
  obtain ⟨T1, X2, e3, st4⟩ := initO X0 hx hZ hown (hw _ (List.mem_of_getElem? (i := 11) rfl)) (hw _ (List.mem_of_getElem? (i := 12) rfl)) (hw _ (List.mem_of_getElem? (i := 13) rfl)) e0 (g := (mkF m 1 #[rv a, iv x0, iv x1, iv x2] [(.ref a)])) rfl (by rw [hml]; rfl) rfl (hb hby d2_1) (by decide) (W := 0) (by show 2 * 0 + _ ≤ _; exact Nat.le_of_eq rfl) (by decide)
  refine own_bk (S' := (T1.setTop (mkF m 4 #[rv a, iv x0, iv x1, iv x2] []))) st4 ?_
  refine own_bk (S' := (T1.setTop (mkF m 5 #[rv a, iv x0, iv x1, iv x2] [(.ref a)]))) (fun t_ kont => XS.aloadN X2.here hx rfl (hb hby d2_4) rfl rfl kont) ?_
  refine own_bk (S' := (T1.setTop (mkF m 6 #[rv a, iv x0, iv x1, iv x2] [(.int x0), (.ref a)]))) (fun t_ kont => XS.iloadN X2.here hx rfl (hb hby d2_5) rfl kont) ?_
  obtain ⟨T5, h6, X7, e8, W9, st10⟩ := putF X2 hx hZ hown (host := "") (Or.inl (hw _ (List.mem_of_getElem? (i := 14) rfl))) Via.refl e3 F0 E (Or.inr ⟨(hw _ (List.mem_of_getElem? (i := 15) rfl)), rfl, hnm⟩) (hw _ (List.mem_of_getElem? (i := 7) rfl)) (ty := .int) (by decide +kernel) rfl rfl (g := (mkF m 6 #[rv a, iv x0, iv x1, iv x2] [(.int x0), (.ref a)])) rfl rfl (hb hby d2_6)
  have N11 := Fr.snoc X7 N0 ag
  have E12 := (E.wr W9)
  have F13 := (F0.same W9)
  have F14 := (F1.other W9 (Or.inr (slot_ne (Or.inr (hw _ (List.mem_of_getElem? (i := 17) rfl))) (Or.inr (hw _ (List.mem_of_getElem? (i := 15) rfl))) (by decide) (show parseFieldDescriptor "I" = some .int from by decide +kernel) (show parseFieldDescriptor "I" = some .int from by decide +kernel))))
  have F15 := (F2.other W9 (Or.inr (slot_ne (Or.inr (hw _ (List.mem_of_getElem? (i := 19) rfl))) (Or.inr (hw _ (List.mem_of_getElem? (i := 15) rfl))) (by decide) (show parseFieldDescriptor "I" = some .int from by decide +kernel) (show parseFieldDescriptor "I" = some .int from by decide +kernel))))
  have Z16 := Nat.le_trans Z0 (Keep.of_wr W9).1
  have K17 := (Keep.refl h0 [a]).wr W9 (Or.inl (List.mem_of_getElem? (i := 0) rfl))
  refine own_bk (S' := (T5.setTop (mkF m 9 #[rv a, iv x0, iv x1, iv x2] []))) st10 ?_
  refine own_bk (S' := (T5.setTop (mkF m 10 #[rv a, iv x0, iv x1, iv x2] [(.ref a)]))) (fun t_ kont => XS.aloadN X7.here hx rfl (hb hby d2_9) rfl rfl kont) ?_
  refine own_bk (S' := (T5.setTop (mkF m 11 #[rv a, iv x0, iv x1, iv x2] [(.int x1), (.ref a)]))) (fun t_ kont => XS.iloadN X7.here hx rfl (hb hby d2_10) rfl kont) ?_
  obtain ⟨T18, h19, X20, e21, W22, st23⟩ := putF X7 hx hZ hown (host := "") (Or.inl (hw _ (List.mem_of_getElem? (i := 16) rfl))) Via.refl e8 F14 E12 (Or.inr ⟨(hw _ (List.mem_of_getElem? (i := 17) rfl)), rfl, hnm⟩) (hw _ (List.mem_of_getElem? (i := 7) rfl)) (ty := .int) (by decide +kernel) rfl rfl (g := (mkF m 11 #[rv a, iv x0, iv x1, iv x2] [(.int x1), (.ref a)])) rfl rfl (hb hby d2_11)
  have N24 := Fr.snoc X20 N11 ag
  have E25 := (E12.wr W22)
  have F26 := (F13.other W22 (Or.inr (slot_ne (Or.inr (hw _ (List.mem_of_getElem? (i := 15) rfl))) (Or.inr (hw _ (List.mem_of_getElem? (i := 17) rfl))) (by decide) (show parseFieldDescriptor "I" = some .int from by decide +kernel) (show parseFieldDescriptor "I" = some .int from by decide +kernel))))
  have F27 := (F14.same W22)
  have F28 := (F15.other W22 (Or.inr (slot_ne (Or.inr (hw _ (List.mem_of_getElem? (i := 19) rfl))) (Or.inr (hw _ (List.mem_of_getElem? (i := 17) rfl))) (by decide) (show parseFieldDescriptor "I" = some .int from by decide +kernel) (show parseFieldDescriptor "I" = some .int from by decide +kernel))))
  have Z29 := Nat.le_trans Z16 (Keep.of_wr W22).1
  have K30 := K17.wr W22 (Or.inl (List.mem_of_getElem? (i := 0) rfl))
  refine own_bk (S' := (T18.setTop (mkF m 14 #[rv a, iv x0, iv x1, iv x2] []))) st23 ?_
  refine own_bk (S' := (T18.setTop (mkF m 15 #[rv a, iv x0, iv x1, iv x2] [(.ref a)]))) (fun t_ kont => XS.aloadN X20.here hx rfl (hb hby d2_14) rfl rfl kont) ?_
  refine own_bk (S' := (T18.setTop (mkF m 16 #[rv a, iv x0, iv x1, iv x2] [(.int x2), (.ref a)]))) (fun t_ kont => XS.iloadN X20.here hx rfl (hb hby d2_15) rfl kont) ?_
  obtain ⟨T31, h32, X33, e34, W35, st36⟩ := putF X20 hx hZ hown (host := "") (Or.inl (hw _ (List.mem_of_getElem? (i := 18) rfl))) Via.refl e21 F28 E25 (Or.inr ⟨(hw _ (List.mem_of_getElem? (i := 19) rfl)), rfl, hnm⟩) (hw _ (List.mem_of_getElem? (i := 7) rfl)) (ty := .int) (by decide +kernel) rfl rfl (g := (mkF m 16 #[rv a, iv x0, iv x1, iv x2] [(.int x2), (.ref a)])) rfl rfl (hb hby d2_16)
  have N37 := Fr.snoc X33 N24 ag
  have E38 := (E25.wr W35)
  have F39 := (F26.other W35 (Or.inr (slot_ne (Or.inr (hw _ (List.mem_of_getElem? (i := 15) rfl))) (Or.inr (hw _ (List.mem_of_getElem? (i := 19) rfl))) (by decide) (show parseFieldDescriptor "I" = some .int from by decide +kernel) (show parseFieldDescriptor "I" = some .int from by decide +kernel))))
  have F40 := (F27.other W35 (Or.inr (slot_ne (Or.inr (hw _ (List.mem_of_getElem? (i := 17) rfl))) (Or.inr (hw _ (List.mem_of_getElem? (i := 19) rfl))) (by decide) (show parseFieldDescriptor "I" = some .int from by decide +kernel) (show parseFieldDescriptor "I" = some .int from by decide +kernel))))
  have F41 := (F28.same W35)
  have Z42 := Nat.le_trans Z29 (Keep.of_wr W35).1
  have K43 := K30.wr W35 (Or.inl (List.mem_of_getElem? (i := 0) rfl))
  refine own_bk (S' := (T31.setTop (mkF m 19 #[rv a, iv x0, iv x1, iv x2] []))) st36 ?_
  exact own_retV X33 hx hlk Bd.returns (hb hby d2_19) (by rw [e34]; exact ⟨rfl, N37, K43, F39, F40, F41⟩) (by decide) (by decide)
theorem d1_0 : decode prog_8_method_2_code 0 = .ok (.new 8, 3) := by decide +kernel
theorem d1_3 : decode prog_8_method_2_code 3 = .ok (.dup, 1) := by decide +kernel
theorem d1_4 : decode prog_8_method_2_code 4 = .ok (.iload_n 0, 1) := by decide +kernel
theorem d1_5 : decode prog_8_method_2_code 5 = .ok (.iload_n 1, 1) := by decide +kernel
theorem d1_6 : decode prog_8_method_2_code 6 = .ok (.iload_n 2, 1) := by decide +kernel
theorem d1_7 : decode prog_8_method_2_code 7 = .ok (.invokespecial 19, 3) := by decide +kernel
theorem d1_10 : decode prog_8_method_2_code 10 = .ok (.astore_n 3, 1) := by decide +kernel
theorem d1_11 : decode prog_8_method_2_code 11 = .ok (.iload_n 0, 1) := by decide +kernel
theorem d1_12 : decode prog_8_method_2_code 12 = .ok (.getstatic 22, 3) := by decide +kernel
theorem d1_15 : decode prog_8_method_2_code 15 = .ok (.getfield 7, 3) := by decide +kernel
theorem d1_18 : decode prog_8_method_2_code 18 = .ok (.if_icmp .lt 23, 3) := by decide +kernel
theorem d1_21 : decode prog_8_method_2_code 21 = .ok (.iload_n 1, 1) := by decide +kernel
theorem d1_22 : decode prog_8_method_2_code 22 = .ok (.getstatic 22, 3) := by decide +kernel
theorem d1_25 : decode prog_8_method_2_code 25 = .ok (.getfield 13, 3) := by decide +kernel
theorem d1_28 : decode prog_8_method_2_code 28 = .ok (.if_icmp .lt 13, 3) := by decide +kernel
theorem d1_31 : decode prog_8_method_2_code 31 = .ok (.iload_n 2, 1) := by decide +kernel
theorem d1_32 : decode prog_8_method_2_code 32 = .ok (.getstatic 22, 3) := by decide +kernel
theorem d1_35 : decode prog_8_method_2_code 35 = .ok (.getfield 16, 3) := by decide +kernel
theorem d1_38 : decode prog_8_method_2_code 38 = .ok (.if_icmp .ge 26, 3) := by decide +kernel
theorem d1_41 : decode prog_8_method_2_code 41 = .ok (.new 26, 3) := by decide +kernel
theorem d1_44 : decode prog_8_method_2_code 44 = .ok (.dup, 1) := by decide +kernel
theorem d1_45 : decode prog_8_method_2_code 45 = .ok (.aload_n 3, 1) := by decide +kernel
theorem d1_46 : decode prog_8_method_2_code 46 = .ok (.invokestatic 28, 3) := by decide +kernel
theorem d1_49 : decode prog_8_method_2_code 49 = .ok (.getstatic 22, 3) := by decide +kernel
theorem d1_52 : decode prog_8_method_2_code 52 = .ok (.invokestatic 28, 3) := by decide +kernel
theorem d1_55 : decode prog_8_method_2_code 55 = .ok (.invokedynamic 34, 5) := by decide +kernel
theorem d1_60 : decode prog_8_method_2_code 60 = .ok (.invokespecial 38, 3) := by decide +kernel
theorem d1_63 : decode prog_8_method_2_code 63 = .ok (.athrow, 1) := by decide +kernel
theorem d1_64 : decode prog_8_method_2_code 64 = .ok (.iload_n 0, 1) := by decide +kernel
theorem d1_65 : decode prog_8_method_2_code 65 = .ok (.ldc 41, 2) := by decide +kernel
theorem d1_67 : decode prog_8_method_2_code 67 = .ok (.if_icmp .gt 15, 3) := by decide +kernel
theorem d1_70 : decode prog_8_method_2_code 70 = .ok (.iload_n 1, 1) := by decide +kernel
theorem d1_71 : decode prog_8_method_2_code 71 = .ok (.bipush 16, 2) := by decide +kernel
theorem d1_73 : decode prog_8_method_2_code 73 = .ok (.if_icmp .gt 9, 3) := by decide +kernel
theorem d1_76 : decode prog_8_method_2_code 76 = .ok (.iload_n 2, 1) := by decide +kernel
theorem d1_77 : decode prog_8_method_2_code 77 = .ok (.bipush 16, 2) := by decide +kernel
theorem d1_79 : decode prog_8_method_2_code 79 = .ok (.if_icmp .le 20, 3) := by decide +kernel
theorem d1_82 : decode prog_8_method_2_code 82 = .ok (.new 26, 3) := by decide +kernel
theorem d1_85 : decode prog_8_method_2_code 85 = .ok (.dup, 1) := by decide +kernel
theorem d1_86 : decode prog_8_method_2_code 86 = .ok (.aload_n 3, 1) := by decide +kernel
theorem d1_87 : decode prog_8_method_2_code 87 = .ok (.invokestatic 28, 3) := by decide +kernel
theorem d1_90 : decode prog_8_method_2_code 90 = .ok (.invokedynamic 42, 5) := by decide +kernel
theorem d1_95 : decode prog_8_method_2_code 95 = .ok (.invokespecial 38, 3) := by decide +kernel
theorem d1_98 : decode prog_8_method_2_code 98 = .ok (.athrow, 1) := by decide +kernel
theorem d1_99 : decode prog_8_method_2_code 99 = .ok (.aload_n 3, 1) := by decide +kernel
theorem d1_100 : decode prog_8_method_2_code 100 = .ok (.areturn, 1) := by decide +kernel
theorem ef_rm1 (m : MethodId) (x0 : Int32) (x1 : Int32) (x2 : Int32) : entryFrame m #[(.int x0), (.int x1), (.int x2)] 4 = mkF m 0 #[.val (.int x0), .val (.int x1), .val (.int x2), .unset] [] := by first | (simp [entryFrame, mkF, argsToLocals, Value.category, maxLocals]; done) | rfl
def Q_rm1 (Z : State) (x0 x1 x2 : Int32) (rM : Addr) (h0 : Heap) (n0 : Nat) (v : Option Value) (h : Heap) (L : List Loc) : Prop := Fr n0 L ∧ Old Z n0 h ∧ n0 ≤ h.size ∧ ∃ a, v = some (.ref a) ∧ Exa Z h a "com/example/portunus/portunus/KdfSettings" ∧ Fld Z h a "com/example/portunus/portunus/KdfSettings" "memoryKiB" "I" (.int x0) ∧ Fld Z h a "com/example/portunus/portunus/KdfSettings" "passes" "I" (.int x1) ∧ Fld Z h a "com/example/portunus/portunus/KdfSettings" "lanes" "I" (.int x2)
set_option maxRecDepth 65536 in
set_option maxHeartbeats 40000000 in
theorem rm1 (l : Launch) (Z : State) (a0 : Array Value) (hw : ∀ d ∈ tables_1, d.before a0 Z = true) (ws : List Jvm.Cond) (x0 x1 x2 : Int32) (rM : Addr) (h0 : Heap) (n0 : Nat) (Z0 : n0 ≤ h0.size) (O : Old Z n0 h0) (SM : Sta Z Z.heap "com/example/portunus/portunus/KdfSettings" "MINIMUM" "Lcom/example/portunus/portunus/KdfSettings;" (.ref rM)) (M0 : Fld Z Z.heap rM "com/example/portunus/portunus/KdfSettings" "memoryKiB" "I" (.int 19456)) (M1 : Fld Z Z.heap rM "com/example/portunus/portunus/KdfSettings" "passes" "I" (.int 2)) (M2 : Fld Z Z.heap rM "com/example/portunus/portunus/KdfSettings" "lanes" "I" (.int 1)) (l0 : ¬ x0 < 19456) (l1 : ¬ x1 < 2) (l2 : ¬ x2 < 1) (u0 : ¬ 4194304 < x0) (u1 : ¬ 16 < x1) (u2 : ¬ 16 < x2) :
    MetFree l (⟨"com/example/portunus/portunus/KdfSettings", "of", "(III)Lcom/example/portunus/portunus/KdfSettings;"⟩ : MethodName) (head1 (Jvm.Cond.code (⟨"com/example/portunus/portunus/KdfSettings", "of", "(III)Lcom/example/portunus/portunus/KdfSettings;"⟩ : MethodName) prog_8_method_2_code 4 (some (.object "com/example/portunus/portunus/KdfSettings")) :: ws) ({ frames := 2, cells := 1, slots := 3, locals := 40 } : Room)) (fun as_ U_ => as_ = #[(.int x0), (.int x1), (.int x2)] ∧ Z.Warmed39 U_.vm ∧ U_.heap = h0) (fun _ _ _ _ _ => True) (fun _ U_ o_ U2_ => ∃ v_ L_, o_ = .returned v_ ∧ (Q_rm1 Z x0 x1 x2 rM h0 n0) v_ U2_.heap L_ ∧ FrameEnd U_ o_ U2_ L_ ({ frames := 2, cells := 1, slots := 3, locals := 40 } : Room).cells ({ frames := 2, cells := 1, slots := 3, locals := 40 } : Room).slots) := by
  refine MetFree.of_bodySF (plainFor_of_name (by first | (simp [plainName, overriddenIn]; done) | decide +kernel : plainName "com/example/portunus/portunus/KdfSettings" = true)) hisR ?_
  intro p e s m args below meth c s₁ Bd hml0 hP hK
  obtain ⟨rfl, hZ, hh⟩ := hP
  have hx := Bd.exec
  have hby := Bd.bytes
  have hlk := Bd.notSynchronized
  have hml : c.maxLocals = 4 := hml0
  have hown : s.vm.findClass "com/example/portunus/portunus/KdfSettings" = some m.cls := findClass_of_methodNamed Bd.named
  have hnm := (name_of_methodNamed Bd.named Bd.method).1
  have X0 : Stand p l e ({ frames := 2, cells := 1, slots := 3, locals := 40 } : Room) s m #[(.int x0), (.int x1), (.int x2)] below meth c s₁ [] 0 0 := Stand.of_body Bd
  have e0 : s₁.heap = h0 := by rw [← hh, Bd.state]; rfl
  have N0 := Fr.nil n0
  show own_Go p e below (own_R s below (Q_rm1 Z x0 x1 x2 rM h0 n0) ({ frames := 2, cells := 1, slots := 3, locals := 40 } : Room).cells ({ frames := 2, cells := 1, slots := 3, locals := 40 } : Room).slots) (s₁.setTop (entryFrame m #[(.int x0), (.int x1), (.int x2)] 4))
  refine own_bk (S' := (s₁.setTop (mkF m 0 #[iv x0, iv x1, iv x2, .unset] []))) (fun t_ kont => castTop (ef_rm1 m (x0) (x1) (x2)) kont) ?_
  obtain ⟨T1, h2, X3, e4, E5, A6, D7, -, st8⟩ := newO X0 hx hZ hown (hw _ (List.mem_of_getElem? (i := 6) rfl)) (hw _ (List.mem_of_getElem? (i := 7) rfl)) (hw _ (List.mem_of_getElem? (i := 4) rfl)) e0 (g := (mkF m 0 #[iv x0, iv x1, iv x2, .unset] [])) rfl (hb hby d1_0) (by decide) (by decide)
  obtain ⟨a9, g10⟩ : ∃ z, z = h0.size := ⟨_, rfl⟩
  rw [← g10] at A6 D7 st8
  have ag11 : n0 ≤ a9 := Nat.le_trans Z0 (Nat.le_of_eq g10.symm)
  have Z12 := Nat.le_trans Z0 E5.1
  have O13 := O.ext E5
  have F14 : Fld Z h2 a9 "com/example/portunus/portunus/KdfSettings" "memoryKiB" "I" (.int (0 : Int32)) := (D7 (Or.inr (hw _ (List.mem_of_getElem? (i := 15) rfl))) (ty := .int) (by decide +kernel))
  have F15 : Fld Z h2 a9 "com/example/portunus/portunus/KdfSettings" "passes" "I" (.int (0 : Int32)) := (D7 (Or.inr (hw _ (List.mem_of_getElem? (i := 17) rfl))) (ty := .int) (by decide +kernel))
  have F16 : Fld Z h2 a9 "com/example/portunus/portunus/KdfSettings" "lanes" "I" (.int (0 : Int32)) := (D7 (Or.inr (hw _ (List.mem_of_getElem? (i := 19) rfl))) (ty := .int) (by decide +kernel))
  refine own_bk (S' := (T1.setTop (mkF m 3 #[iv x0, iv x1, iv x2, .unset] [(.ref a9)]))) st8 ?_
  refine own_bk (S' := (T1.setTop (mkF m 4 #[iv x0, iv x1, iv x2, .unset] [(.ref a9), (.ref a9)]))) (fun t_ kont => XS.dup X3.here hx rfl (hb hby d1_3) rfl rfl kont) ?_
  refine own_bk (S' := (T1.setTop (mkF m 5 #[iv x0, iv x1, iv x2, .unset] [(.int x0), (.ref a9), (.ref a9)]))) (fun t_ kont => XS.iloadN X3.here hx rfl (hb hby d1_4) rfl kont) ?_
  refine own_bk (S' := (T1.setTop (mkF m 6 #[iv x0, iv x1, iv x2, .unset] [(.int x1), (.int x0), (.ref a9), (.ref a9)]))) (fun t_ kont => XS.iloadN X3.here hx rfl (hb hby d1_5) rfl kont) ?_
  refine own_bk (S' := (T1.setTop (mkF m 7 #[iv x0, iv x1, iv x2, .unset] [(.int x2), (.int x1), (.int x0), (.ref a9), (.ref a9)]))) (fun t_ kont => XS.iloadN X3.here hx rfl (hb hby d1_6) rfl kont) ?_
  obtain ⟨_, _, ⟨T17, L18, k19, n20⟩, -, X21, ⟨Lc22, hQ23, l24, y25, z26⟩, st27⟩ := X3.specialBack hx (y := (⟨"com/example/portunus/portunus/KdfSettings", "<init>", "(III)V"⟩ : MethodName)) rfl hown (mvT hZ (hw _ (List.mem_of_getElem? (i := 8) rfl))) (mvT hZ (hw _ (List.mem_of_getElem? (i := 9) rfl))) (mvT hZ (hw _ (List.mem_of_getElem? (i := 10) rfl))) (by decide) (backOf (W := 1) (rm2 l Z a0 hw [] a9 x0 x1 x2 h2 n0 Z12 A6 ag11 F14 F15 F16) hZ (hw _ (List.mem_of_getElem? (i := 10) rfl)) (hw _ (List.mem_of_getElem? (i := 4) rfl)) (by decide) (by decide)) (g := (mkF m 7 #[iv x0, iv x1, iv x2, .unset] [(.int x2), (.int x1), (.int x0), (.ref a9), (.ref a9)])) rfl (by rw [hml]; rfl) (Steps.refl _) (a := a9) (argsL := [(.int x0), (.int x1), (.int x2)]) (rest := [(.ref a9)]) (lenOf (by decide +kernel : parseMethodDescriptor "(III)V" = some ⟨[.int, .int, .int], none⟩) rfl) rfl (by show 2 * 0 + _ ≤ _; exact Nat.le_of_eq rfl) (hb hby d1_7) (fun _ _ => ⟨rfl, e4, (by decide : 1 + 0 ≤ _), (by decide : 3 + 0 ≤ _)⟩)
  dsimp only [Pt.U, Pt.locs, Pt.cells, Pt.slots] at X21 l24 y25 z26 st27 hQ23
  subst l24 y25 z26
  obtain ⟨rfl, N28, K_, g0, g1, g2⟩ := hQ23
  have N30 := Fr.app N0 N28
  have E31 := (A6.keep K_)
  have Z32 := Nat.le_trans Z12 K_.1
  have O33 := O13.keep K_ (allS ag11 all0)
  refine own_tr (S' := (T17.setTop (mkF m 10 #[iv x0, iv x1, iv x2, .unset] [(.ref a9)]))) st27 ?_
  refine own_bk (S' := (T17.setTop (mkF m 11 #[iv x0, iv x1, iv x2, rv a9] []))) (fun t_ kont => XS.astoreN X21.here hx rfl (hb hby d1_10) rfl rfl (l' := #[iv x0, iv x1, iv x2, rv a9]) rfl kont) ?_
  refine own_bk (S' := (T17.setTop (mkF m 12 #[iv x0, iv x1, iv x2, rv a9] [(.int x0)]))) (fun t_ kont => XS.iloadN X21.here hx rfl (hb hby d1_11) rfl kont) ?_
  obtain ⟨T34, X35, e36, st37⟩ := getS2 X21 hx hZ hown (host := "") (Or.inl (hw _ (List.mem_of_getElem? (i := 20) rfl))) Via.refl rfl (SM.ext O33.2) (g := (mkF m 12 #[iv x0, iv x1, iv x2, rv a9] [(.int x0)])) rfl (hb hby d1_12)
  refine own_bk (S' := (T34.setTop (mkF m 15 #[iv x0, iv x1, iv x2, rv a9] [(.ref rM), (.int x0)]))) st37 ?_
  obtain ⟨T38, X39, e40, st41⟩ := getF X35 hx hZ hown (host := "") (Or.inl (hw _ (List.mem_of_getElem? (i := 14) rfl))) Via.refl e36 (M0.ext O33.2) (g := (mkF m 15 #[iv x0, iv x1, iv x2, rv a9] [(.ref rM), (.int x0)])) rfl rfl (hb hby d1_15)
  refine own_bk (S' := (T38.setTop (mkF m 18 #[iv x0, iv x1, iv x2, rv a9] [(.int (19456 : Int32)), (.int x0)]))) st41 ?_
  refine own_bk (S' := (T38.setTop (mkF m 21 #[iv x0, iv x1, iv x2, rv a9] []))) (fun t_ kont => XS.icmpNo X39.here hx rfl (hb hby d1_18) rfl (flt (l0)).1 kont) ?_
  refine own_bk (S' := (T38.setTop (mkF m 22 #[iv x0, iv x1, iv x2, rv a9] [(.int x1)]))) (fun t_ kont => XS.iloadN X39.here hx rfl (hb hby d1_21) rfl kont) ?_
  obtain ⟨T42, X43, e44, st45⟩ := getS2 X39 hx hZ hown (host := "") (Or.inl (hw _ (List.mem_of_getElem? (i := 20) rfl))) Via.refl e40 (SM.ext O33.2) (g := (mkF m 22 #[iv x0, iv x1, iv x2, rv a9] [(.int x1)])) rfl (hb hby d1_22)
  refine own_bk (S' := (T42.setTop (mkF m 25 #[iv x0, iv x1, iv x2, rv a9] [(.ref rM), (.int x1)]))) st45 ?_
  obtain ⟨T46, X47, e48, st49⟩ := getF X43 hx hZ hown (host := "") (Or.inl (hw _ (List.mem_of_getElem? (i := 16) rfl))) Via.refl e44 (M1.ext O33.2) (g := (mkF m 25 #[iv x0, iv x1, iv x2, rv a9] [(.ref rM), (.int x1)])) rfl rfl (hb hby d1_25)
  refine own_bk (S' := (T46.setTop (mkF m 28 #[iv x0, iv x1, iv x2, rv a9] [(.int (2 : Int32)), (.int x1)]))) st49 ?_
  refine own_bk (S' := (T46.setTop (mkF m 31 #[iv x0, iv x1, iv x2, rv a9] []))) (fun t_ kont => XS.icmpNo X47.here hx rfl (hb hby d1_28) rfl (flt (l1)).1 kont) ?_
  refine own_bk (S' := (T46.setTop (mkF m 32 #[iv x0, iv x1, iv x2, rv a9] [(.int x2)]))) (fun t_ kont => XS.iloadN X47.here hx rfl (hb hby d1_31) rfl kont) ?_
  obtain ⟨T50, X51, e52, st53⟩ := getS2 X47 hx hZ hown (host := "") (Or.inl (hw _ (List.mem_of_getElem? (i := 20) rfl))) Via.refl e48 (SM.ext O33.2) (g := (mkF m 32 #[iv x0, iv x1, iv x2, rv a9] [(.int x2)])) rfl (hb hby d1_32)
  refine own_bk (S' := (T50.setTop (mkF m 35 #[iv x0, iv x1, iv x2, rv a9] [(.ref rM), (.int x2)]))) st53 ?_
  obtain ⟨T54, X55, e56, st57⟩ := getF X51 hx hZ hown (host := "") (Or.inl (hw _ (List.mem_of_getElem? (i := 18) rfl))) Via.refl e52 (M2.ext O33.2) (g := (mkF m 35 #[iv x0, iv x1, iv x2, rv a9] [(.ref rM), (.int x2)])) rfl rfl (hb hby d1_35)
  refine own_bk (S' := (T54.setTop (mkF m 38 #[iv x0, iv x1, iv x2, rv a9] [(.int (1 : Int32)), (.int x2)]))) st57 ?_
  refine own_bk (S' := (T54.setTop (mkF m 64 #[iv x0, iv x1, iv x2, rv a9] []))) (fun t_ kont => XS.icmpYes X55.here hx rfl (pc0 := 38) (pc' := 64) rfl (hb hby d1_38) rfl (flt (l2)).2.1 (by decide) (by decide) kont) ?_
  refine own_bk (S' := (T54.setTop (mkF m 65 #[iv x0, iv x1, iv x2, rv a9] [(.int x0)]))) (fun t_ kont => XS.iloadN X55.here hx rfl (hb hby d1_64) rfl kont) ?_
  refine own_bk (S' := (T54.setTop (mkF m 67 #[iv x0, iv x1, iv x2, rv a9] [(.int (4194304 : Int32)), (.int x0)]))) (fun t_ kont => X55.ldcI hx hown (mvT hZ (hw _ (List.mem_of_getElem? (i := 22) rfl))) rfl (hb hby d1_65) kont) ?_
  refine own_bk (S' := (T54.setTop (mkF m 70 #[iv x0, iv x1, iv x2, rv a9] []))) (fun t_ kont => XS.icmpNo X55.here hx rfl (hb hby d1_67) rfl (flt (u0)).2.2.1 kont) ?_
  refine own_bk (S' := (T54.setTop (mkF m 71 #[iv x0, iv x1, iv x2, rv a9] [(.int x1)]))) (fun t_ kont => XS.iloadN X55.here hx rfl (hb hby d1_70) rfl kont) ?_
  refine own_bk (S' := (T54.setTop (mkF m 73 #[iv x0, iv x1, iv x2, rv a9] [(.int (16 : Int32)), (.int x1)]))) (fun t_ kont => XS.bipush X55.here hx rfl (hb hby d1_71) kont) ?_
  refine own_bk (S' := (T54.setTop (mkF m 76 #[iv x0, iv x1, iv x2, rv a9] []))) (fun t_ kont => XS.icmpNo X55.here hx rfl (hb hby d1_73) rfl (flt (u1)).2.2.1 kont) ?_
  refine own_bk (S' := (T54.setTop (mkF m 77 #[iv x0, iv x1, iv x2, rv a9] [(.int x2)]))) (fun t_ kont => XS.iloadN X55.here hx rfl (hb hby d1_76) rfl kont) ?_
  refine own_bk (S' := (T54.setTop (mkF m 79 #[iv x0, iv x1, iv x2, rv a9] [(.int (16 : Int32)), (.int x2)]))) (fun t_ kont => XS.bipush X55.here hx rfl (hb hby d1_77) kont) ?_
  refine own_bk (S' := (T54.setTop (mkF m 99 #[iv x0, iv x1, iv x2, rv a9] []))) (fun t_ kont => XS.icmpYes X55.here hx rfl (pc0 := 79) (pc' := 99) rfl (hb hby d1_79) rfl (flt (u2)).2.2.2 (by decide) (by decide) kont) ?_
  refine own_bk (S' := (T54.setTop (mkF m 100 #[iv x0, iv x1, iv x2, rv a9] [(.ref a9)]))) (fun t_ kont => XS.aloadN X55.here hx rfl (hb hby d1_99) rfl rfl kont) ?_
  exact own_retA X55 hx hlk Bd.returns rfl rfl rfl (hb hby d1_100) (by rw [e56]; exact ⟨N30, O33, Z32, a9, rfl, E31, g0, g1, g2⟩) (by decide) (by decide)
theorem d4_0 : decode prog_8_method_3_code 0 = .ok (.aload_n 0, 1) := by decide +kernel
theorem d4_1 : decode prog_8_method_3_code 1 = .ok (.getfield 7, 3) := by decide +kernel
theorem d4_4 : decode prog_8_method_3_code 4 = .ok (.ireturn, 1) := by decide +kernel
theorem ef_rmg0 (m : MethodId) (x0 : Addr) : entryFrame m #[(.ref x0)] 1 = mkF m 0 #[.val (.ref x0)] [] := by first | (simp [entryFrame, mkF, argsToLocals, Value.category, maxLocals]; done) | rfl
def Q_rmg0 (Z : State) (a : Addr) (k : Int32) (h0 : Heap) (n0 : Nat) (v : Option Value) (h : Heap) (L : List Loc) : Prop := v = some (.int k) ∧ Fr n0 L ∧ h = h0
set_option maxRecDepth 65536 in
set_option maxHeartbeats 40000000 in
theorem rmg0 (l : Launch) (Z : State) (a0 : Array Value) (hw : ∀ d ∈ tables_1, d.before a0 Z = true) (ws : List Jvm.Cond) (a : Addr) (k : Int32) (h0 : Heap) (n0 : Nat) (Z0 : n0 ≤ h0.size) (F : Fld Z h0 a "com/example/portunus/portunus/KdfSettings" "memoryKiB" "I" (.int k)) :
    MetFree l (⟨"com/example/portunus/portunus/KdfSettings", "memoryKiB", "()I"⟩ : MethodName) (head1 (Jvm.Cond.code (⟨"com/example/portunus/portunus/KdfSettings", "memoryKiB", "()I"⟩ : MethodName) prog_8_method_3_code 1 (some .int) :: ws) ({ frames := 0, cells := 0, slots := 0, locals := 0 } : Room)) (fun as_ U_ => as_ = #[(.ref a)] ∧ Z.Warmed39 U_.vm ∧ U_.heap = h0) (fun _ _ _ _ _ => True) (fun _ U_ o_ U2_ => ∃ v_ L_, o_ = .returned v_ ∧ (Q_rmg0 Z a k h0 n0) v_ U2_.heap L_ ∧ FrameEnd U_ o_ U2_ L_ ({ frames := 0, cells := 0, slots := 0, locals := 0 } : Room).cells ({ frames := 0, cells := 0, slots := 0, locals := 0 } : Room).slots) := by
  refine MetFree.of_bodySF (plainFor_of_name (by first | (simp [plainName, overriddenIn]; done) | decide +kernel : plainName "com/example/portunus/portunus/KdfSettings" = true)) hisR ?_
  intro p e s m args below meth c s₁ Bd hml0 hP hK
  obtain ⟨rfl, hZ, hh⟩ := hP
  have hx := Bd.exec
  have hby := Bd.bytes
  have hlk := Bd.notSynchronized
  have hml : c.maxLocals = 1 := hml0
  have hown : s.vm.findClass "com/example/portunus/portunus/KdfSettings" = some m.cls := findClass_of_methodNamed Bd.named
  have hnm := (name_of_methodNamed Bd.named Bd.method).1
  have X0 : Stand p l e ({ frames := 0, cells := 0, slots := 0, locals := 0 } : Room) s m #[(.ref a)] below meth c s₁ [] 0 0 := Stand.of_body Bd
  have e0 : s₁.heap = h0 := by rw [← hh, Bd.state]; rfl
  have N0 := Fr.nil n0
  show own_Go p e below (own_R s below (Q_rmg0 Z a k h0 n0) ({ frames := 0, cells := 0, slots := 0, locals := 0 } : Room).cells ({ frames := 0, cells := 0, slots := 0, locals := 0 } : Room).slots) (s₁.setTop (entryFrame m #[(.ref a)] 1))
  refine own_bk (S' := (s₁.setTop (mkF m 0 #[rv a] []))) (fun t_ kont => castTop (ef_rmg0 m (a)) kont) ?_
  refine own_bk (S' := (s₁.setTop (mkF m 1 #[rv a] [(.ref a)]))) (fun t_ kont => XS.aloadN X0.here hx rfl (hb hby d4_0) rfl rfl kont) ?_
  obtain ⟨T1, X2, e3, st4⟩ := getF X0 hx hZ hown (host := "") (Or.inl (hw _ (List.mem_of_getElem? (i := 14) rfl))) Via.refl e0 F (g := (mkF m 1 #[rv a] [(.ref a)])) rfl rfl (hb hby d4_1)
  refine own_bk (S' := (T1.setTop (mkF m 4 #[rv a] [(.int k)]))) st4 ?_
  exact own_retI X2 hx hlk Bd.returns (hb hby d4_4) ⟨rfl, N0, e3⟩ (by decide) (by decide)
theorem d5_0 : decode prog_8_method_4_code 0 = .ok (.aload_n 0, 1) := by decide +kernel
theorem d5_1 : decode prog_8_method_4_code 1 = .ok (.getfield 13, 3) := by decide +kernel
theorem d5_4 : decode prog_8_method_4_code 4 = .ok (.ireturn, 1) := by decide +kernel
theorem ef_rmg1 (m : MethodId) (x0 : Addr) : entryFrame m #[(.ref x0)] 1 = mkF m 0 #[.val (.ref x0)] [] := by first | (simp [entryFrame, mkF, argsToLocals, Value.category, maxLocals]; done) | rfl
def Q_rmg1 (Z : State) (a : Addr) (k : Int32) (h0 : Heap) (n0 : Nat) (v : Option Value) (h : Heap) (L : List Loc) : Prop := v = some (.int k) ∧ Fr n0 L ∧ h = h0
set_option maxRecDepth 65536 in
set_option maxHeartbeats 40000000 in
theorem rmg1 (l : Launch) (Z : State) (a0 : Array Value) (hw : ∀ d ∈ tables_1, d.before a0 Z = true) (ws : List Jvm.Cond) (a : Addr) (k : Int32) (h0 : Heap) (n0 : Nat) (Z0 : n0 ≤ h0.size) (F : Fld Z h0 a "com/example/portunus/portunus/KdfSettings" "passes" "I" (.int k)) :
    MetFree l (⟨"com/example/portunus/portunus/KdfSettings", "passes", "()I"⟩ : MethodName) (head1 (Jvm.Cond.code (⟨"com/example/portunus/portunus/KdfSettings", "passes", "()I"⟩ : MethodName) prog_8_method_4_code 1 (some .int) :: ws) ({ frames := 0, cells := 0, slots := 0, locals := 0 } : Room)) (fun as_ U_ => as_ = #[(.ref a)] ∧ Z.Warmed39 U_.vm ∧ U_.heap = h0) (fun _ _ _ _ _ => True) (fun _ U_ o_ U2_ => ∃ v_ L_, o_ = .returned v_ ∧ (Q_rmg1 Z a k h0 n0) v_ U2_.heap L_ ∧ FrameEnd U_ o_ U2_ L_ ({ frames := 0, cells := 0, slots := 0, locals := 0 } : Room).cells ({ frames := 0, cells := 0, slots := 0, locals := 0 } : Room).slots) := by
  refine MetFree.of_bodySF (plainFor_of_name (by first | (simp [plainName, overriddenIn]; done) | decide +kernel : plainName "com/example/portunus/portunus/KdfSettings" = true)) hisR ?_
  intro p e s m args below meth c s₁ Bd hml0 hP hK
  obtain ⟨rfl, hZ, hh⟩ := hP
  have hx := Bd.exec
  have hby := Bd.bytes
  have hlk := Bd.notSynchronized
  have hml : c.maxLocals = 1 := hml0
  have hown : s.vm.findClass "com/example/portunus/portunus/KdfSettings" = some m.cls := findClass_of_methodNamed Bd.named
  have hnm := (name_of_methodNamed Bd.named Bd.method).1
  have X0 : Stand p l e ({ frames := 0, cells := 0, slots := 0, locals := 0 } : Room) s m #[(.ref a)] below meth c s₁ [] 0 0 := Stand.of_body Bd
  have e0 : s₁.heap = h0 := by rw [← hh, Bd.state]; rfl
  have N0 := Fr.nil n0
  show own_Go p e below (own_R s below (Q_rmg1 Z a k h0 n0) ({ frames := 0, cells := 0, slots := 0, locals := 0 } : Room).cells ({ frames := 0, cells := 0, slots := 0, locals := 0 } : Room).slots) (s₁.setTop (entryFrame m #[(.ref a)] 1))
  refine own_bk (S' := (s₁.setTop (mkF m 0 #[rv a] []))) (fun t_ kont => castTop (ef_rmg1 m (a)) kont) ?_
  refine own_bk (S' := (s₁.setTop (mkF m 1 #[rv a] [(.ref a)]))) (fun t_ kont => XS.aloadN X0.here hx rfl (hb hby d5_0) rfl rfl kont) ?_
  obtain ⟨T1, X2, e3, st4⟩ := getF X0 hx hZ hown (host := "") (Or.inl (hw _ (List.mem_of_getElem? (i := 16) rfl))) Via.refl e0 F (g := (mkF m 1 #[rv a] [(.ref a)])) rfl rfl (hb hby d5_1)
  refine own_bk (S' := (T1.setTop (mkF m 4 #[rv a] [(.int k)]))) st4 ?_
  exact own_retI X2 hx hlk Bd.returns (hb hby d5_4) ⟨rfl, N0, e3⟩ (by decide) (by decide)
theorem d6_0 : decode prog_8_method_5_code 0 = .ok (.aload_n 0, 1) := by decide +kernel
theorem d6_1 : decode prog_8_method_5_code 1 = .ok (.getfield 16, 3) := by decide +kernel
theorem d6_4 : decode prog_8_method_5_code 4 = .ok (.ireturn, 1) := by decide +kernel
theorem ef_rmg2 (m : MethodId) (x0 : Addr) : entryFrame m #[(.ref x0)] 1 = mkF m 0 #[.val (.ref x0)] [] := by first | (simp [entryFrame, mkF, argsToLocals, Value.category, maxLocals]; done) | rfl
def Q_rmg2 (Z : State) (a : Addr) (k : Int32) (h0 : Heap) (n0 : Nat) (v : Option Value) (h : Heap) (L : List Loc) : Prop := v = some (.int k) ∧ Fr n0 L ∧ h = h0
set_option maxRecDepth 65536 in
set_option maxHeartbeats 40000000 in
theorem rmg2 (l : Launch) (Z : State) (a0 : Array Value) (hw : ∀ d ∈ tables_1, d.before a0 Z = true) (ws : List Jvm.Cond) (a : Addr) (k : Int32) (h0 : Heap) (n0 : Nat) (Z0 : n0 ≤ h0.size) (F : Fld Z h0 a "com/example/portunus/portunus/KdfSettings" "lanes" "I" (.int k)) :
    MetFree l (⟨"com/example/portunus/portunus/KdfSettings", "lanes", "()I"⟩ : MethodName) (head1 (Jvm.Cond.code (⟨"com/example/portunus/portunus/KdfSettings", "lanes", "()I"⟩ : MethodName) prog_8_method_5_code 1 (some .int) :: ws) ({ frames := 0, cells := 0, slots := 0, locals := 0 } : Room)) (fun as_ U_ => as_ = #[(.ref a)] ∧ Z.Warmed39 U_.vm ∧ U_.heap = h0) (fun _ _ _ _ _ => True) (fun _ U_ o_ U2_ => ∃ v_ L_, o_ = .returned v_ ∧ (Q_rmg2 Z a k h0 n0) v_ U2_.heap L_ ∧ FrameEnd U_ o_ U2_ L_ ({ frames := 0, cells := 0, slots := 0, locals := 0 } : Room).cells ({ frames := 0, cells := 0, slots := 0, locals := 0 } : Room).slots) := by
  refine MetFree.of_bodySF (plainFor_of_name (by first | (simp [plainName, overriddenIn]; done) | decide +kernel : plainName "com/example/portunus/portunus/KdfSettings" = true)) hisR ?_
  intro p e s m args below meth c s₁ Bd hml0 hP hK
  obtain ⟨rfl, hZ, hh⟩ := hP
  have hx := Bd.exec
  have hby := Bd.bytes
  have hlk := Bd.notSynchronized
  have hml : c.maxLocals = 1 := hml0
  have hown : s.vm.findClass "com/example/portunus/portunus/KdfSettings" = some m.cls := findClass_of_methodNamed Bd.named
  have hnm := (name_of_methodNamed Bd.named Bd.method).1
  have X0 : Stand p l e ({ frames := 0, cells := 0, slots := 0, locals := 0 } : Room) s m #[(.ref a)] below meth c s₁ [] 0 0 := Stand.of_body Bd
  have e0 : s₁.heap = h0 := by rw [← hh, Bd.state]; rfl
  have N0 := Fr.nil n0
  show own_Go p e below (own_R s below (Q_rmg2 Z a k h0 n0) ({ frames := 0, cells := 0, slots := 0, locals := 0 } : Room).cells ({ frames := 0, cells := 0, slots := 0, locals := 0 } : Room).slots) (s₁.setTop (entryFrame m #[(.ref a)] 1))
  refine own_bk (S' := (s₁.setTop (mkF m 0 #[rv a] []))) (fun t_ kont => castTop (ef_rmg2 m (a)) kont) ?_
  refine own_bk (S' := (s₁.setTop (mkF m 1 #[rv a] [(.ref a)]))) (fun t_ kont => XS.aloadN X0.here hx rfl (hb hby d6_0) rfl rfl kont) ?_
  obtain ⟨T1, X2, e3, st4⟩ := getF X0 hx hZ hown (host := "") (Or.inl (hw _ (List.mem_of_getElem? (i := 18) rfl))) Via.refl e0 F (g := (mkF m 1 #[rv a] [(.ref a)])) rfl rfl (hb hby d6_1)
  refine own_bk (S' := (T1.setTop (mkF m 4 #[rv a] [(.int k)]))) st4 ?_
  exact own_retI X2 hx hlk Bd.returns (hb hby d6_4) ⟨rfl, N0, e3⟩ (by decide) (by decide)
theorem ef_rm0 (m : MethodId) (x0 : Int32) (x1 : Int32) (x2 : Int32) : entryFrame m #[(.int x0), (.int x1), (.int x2)] maxLocals = mkF m 0 #[.val (.int x0), .val (.int x1), .val (.int x2), .unset, .unset, .unset, .unset] [] := by first | (simp [entryFrame, mkF, argsToLocals, Value.category, maxLocals]; done) | rfl
def Q_rm0 (Z : State) (v0 v1 v2 : Int32) (rM : Addr) (h0 : Heap) (n0 : Nat) (v : Option Value) (h : Heap) (L : List Loc) : Prop := v = some (.int 1) ∧ Fr n0 L
set_option maxRecDepth 65536 in
set_option maxHeartbeats 40000000 in
theorem rm0 (l : Launch) (Z : State) (a0 : Array Value) (hw : ∀ d ∈ tables_1, d.before a0 Z = true) (ws : List Jvm.Cond) (v0 v1 v2 : Int32) (rM : Addr) (h0 : Heap) (n0 : Nat) (Z0 : n0 ≤ h0.size) (O : Old Z n0 h0) (SM : Sta Z Z.heap "com/example/portunus/portunus/KdfSettings" "MINIMUM" "Lcom/example/portunus/portunus/KdfSettings;" (.ref rM)) (M0 : Fld Z Z.heap rM "com/example/portunus/portunus/KdfSettings" "memoryKiB" "I" (.int 19456)) (M1 : Fld Z Z.heap rM "com/example/portunus/portunus/KdfSettings" "passes" "I" (.int 2)) (M2 : Fld Z Z.heap rM "com/example/portunus/portunus/KdfSettings" "lanes" "I" (.int 1)) :
    MetFree l x (head1 (Jvm.Cond.code x code maxLocals ret :: ws) room_1) (fun as_ U_ => as_ = #[(.int v0), (.int v1), (.int v2)] ∧ Z.Warmed39 U_.vm ∧ U_.heap = h0) (fun _ _ _ _ _ => True) (fun _ U_ o_ U2_ => ∃ v_ L_, o_ = .returned v_ ∧ (Q_rm0 Z v0 v1 v2 rM h0 n0) v_ U2_.heap L_ ∧ FrameEnd U_ o_ U2_ L_ room_1.cells room_1.slots) := by
  refine MetFree.of_bodySF (plainFor_of_name (by first | (simp [plainName, overriddenIn]; done) | decide +kernel : plainName "com/example/portunus/portunus/KdfSettingsOfPinLaw" = true)) hisR ?_
  intro p e s m args below meth c s₁ Bd hml0 hP hK
  obtain ⟨rfl, hZ, hh⟩ := hP
  have hx := Bd.exec
  have hby := Bd.bytes
  have hlk := Bd.notSynchronized
  have hml : c.maxLocals = 7 := hml0
  have hown : s.vm.findClass "com/example/portunus/portunus/KdfSettingsOfPinLaw" = some m.cls := findClass_of_methodNamed Bd.named
  have hnm := (name_of_methodNamed Bd.named Bd.method).1
  have X0 : Stand p l e room_1 s m #[(.int v0), (.int v1), (.int v2)] below meth c s₁ [] 0 0 := Stand.of_body Bd
  have e0 : s₁.heap = h0 := by rw [← hh, Bd.state]; rfl
  have N0 := Fr.nil n0
  show own_Go p e below (own_R s below (Q_rm0 Z v0 v1 v2 rM h0 n0) room_1.cells room_1.slots) (s₁.setTop (entryFrame m #[(.int v0), (.int v1), (.int v2)] maxLocals))
  refine own_bk (S' := (s₁.setTop (mkF m 0 #[iv v0, iv v1, iv v2, .unset, .unset, .unset, .unset] []))) (fun t_ kont => castTop (ef_rm0 m (v0) (v1) (v2)) kont) ?_
  refine own_bk (S' := (s₁.setTop (mkF m 3 #[iv v0, iv v1, iv v2, .unset, .unset, .unset, .unset] [(.int (19456 : Int32))]))) (fun t_ kont => XS.sipush X0.here hx rfl (hb hby at_0) kont) ?_
  refine own_bk (S' := (s₁.setTop (mkF m 4 #[iv v0, iv v1, iv v2, .unset, .unset, .unset, .unset] [(.int v0), (.int (19456 : Int32))]))) (fun t_ kont => XS.iloadN X0.here hx rfl (hb hby at_3) rfl kont) ?_
  refine own_bk (S' := (s₁.setTop (mkF m 6 #[iv v0, iv v1, iv v2, .unset, .unset, .unset, .unset] [(.int (2147483647 : Int32)), (.int v0), (.int (19456 : Int32))]))) (fun t_ kont => X0.ldcI hx hown (mvT hZ (hw _ (List.mem_of_getElem? (i := 0) rfl))) rfl (hb hby at_4) kont) ?_
  refine own_bk (S' := (s₁.setTop (mkF m 7 #[iv v0, iv v1, iv v2, .unset, .unset, .unset, .unset] [(.int (v0 &&& (2147483647 : Int32))), (.int (19456 : Int32))]))) (fun t_ kont => XS.iand X0.here hx rfl (hb hby at_6) rfl kont) ?_
  refine own_bk (S' := (s₁.setTop (mkF m 9 #[iv v0, iv v1, iv v2, .unset, .unset, .unset, .unset] [(.int (4174849 : Int32)), (.int (v0 &&& (2147483647 : Int32))), (.int (19456 : Int32))]))) (fun t_ kont => X0.ldcI hx hown (mvT hZ (hw _ (List.mem_of_getElem? (i := 1) rfl))) rfl (hb hby at_7) kont) ?_
  refine own_bk (S' := (s₁.setTop (mkF m 10 #[iv v0, iv v1, iv v2, .unset, .unset, .unset, .unset] [(.int ((v0 &&& (2147483647 : Int32)) % (4174849 : Int32))), (.int (19456 : Int32))]))) (fun t_ kont => iremM X0 hx rfl (hb hby at_9) rfl (by decide) kont) ?_
  refine own_bk (S' := (s₁.setTop (mkF m 11 #[iv v0, iv v1, iv v2, .unset, .unset, .unset, .unset] [(.int ((19456 : Int32) + ((v0 &&& (2147483647 : Int32)) % (4174849 : Int32))))]))) (fun t_ kont => XS.iadd X0.here hx rfl (hb hby at_10) rfl kont) ?_
  refine own_bk (S' := (s₁.setTop (mkF m 12 #[iv v0, iv v1, iv v2, iv ((19456 : Int32) + ((v0 &&& (2147483647 : Int32)) % (4174849 : Int32))), .unset, .unset, .unset] []))) (fun t_ kont => XS.istoreN X0.here hx rfl (hb hby at_11) rfl (l' := #[iv v0, iv v1, iv v2, iv ((19456 : Int32) + ((v0 &&& (2147483647 : Int32)) % (4174849 : Int32))), .unset, .unset, .unset]) rfl kont) ?_
  refine own_bk (S' := (s₁.setTop (mkF m 13 #[iv v0, iv v1, iv v2, iv ((19456 : Int32) + ((v0 &&& (2147483647 : Int32)) % (4174849 : Int32))), .unset, .unset, .unset] [(.int (2 : Int32))]))) (fun t_ kont => XS.iconst X0.here hx rfl (hb hby at_12) kont) ?_
  refine own_bk (S' := (s₁.setTop (mkF m 14 #[iv v0, iv v1, iv v2, iv ((19456 : Int32) + ((v0 &&& (2147483647 : Int32)) % (4174849 : Int32))), .unset, .unset, .unset] [(.int v1), (.int (2 : Int32))]))) (fun t_ kont => XS.iloadN X0.here hx rfl (hb hby at_13) rfl kont) ?_
  refine own_bk (S' := (s₁.setTop (mkF m 16 #[iv v0, iv v1, iv v2, iv ((19456 : Int32) + ((v0 &&& (2147483647 : Int32)) % (4174849 : Int32))), .unset, .unset, .unset] [(.int (2147483647 : Int32)), (.int v1), (.int (2 : Int32))]))) (fun t_ kont => X0.ldcI hx hown (mvT hZ (hw _ (List.mem_of_getElem? (i := 0) rfl))) rfl (hb hby at_14) kont) ?_
  refine own_bk (S' := (s₁.setTop (mkF m 17 #[iv v0, iv v1, iv v2, iv ((19456 : Int32) + ((v0 &&& (2147483647 : Int32)) % (4174849 : Int32))), .unset, .unset, .unset] [(.int (v1 &&& (2147483647 : Int32))), (.int (2 : Int32))]))) (fun t_ kont => XS.iand X0.here hx rfl (hb hby at_16) rfl kont) ?_
  refine own_bk (S' := (s₁.setTop (mkF m 19 #[iv v0, iv v1, iv v2, iv ((19456 : Int32) + ((v0 &&& (2147483647 : Int32)) % (4174849 : Int32))), .unset, .unset, .unset] [(.int (15 : Int32)), (.int (v1 &&& (2147483647 : Int32))), (.int (2 : Int32))]))) (fun t_ kont => XS.bipush X0.here hx rfl (hb hby at_17) kont) ?_
  refine own_bk (S' := (s₁.setTop (mkF m 20 #[iv v0, iv v1, iv v2, iv ((19456 : Int32) + ((v0 &&& (2147483647 : Int32)) % (4174849 : Int32))), .unset, .unset, .unset] [(.int ((v1 &&& (2147483647 : Int32)) % (15 : Int32))), (.int (2 : Int32))]))) (fun t_ kont => iremM X0 hx rfl (hb hby at_19) rfl (by decide) kont) ?_
  refine own_bk (S' := (s₁.setTop (mkF m 21 #[iv v0, iv v1, iv v2, iv ((19456 : Int32) + ((v0 &&& (2147483647 : Int32)) % (4174849 : Int32))), .unset, .unset, .unset] [(.int ((2 : Int32) + ((v1 &&& (2147483647 : Int32)) % (15 : Int32))))]))) (fun t_ kont => XS.iadd X0.here hx rfl (hb hby at_20) rfl kont) ?_
  refine own_bk (S' := (s₁.setTop (mkF m 23 #[iv v0, iv v1, iv v2, iv ((19456 : Int32) + ((v0 &&& (2147483647 : Int32)) % (4174849 : Int32))), iv ((2 : Int32) + ((v1 &&& (2147483647 : Int32)) % (15 : Int32))), .unset, .unset] []))) (fun t_ kont => XS.istore X0.here hx rfl (hb hby at_21) rfl (l' := #[iv v0, iv v1, iv v2, iv ((19456 : Int32) + ((v0 &&& (2147483647 : Int32)) % (4174849 : Int32))), iv ((2 : Int32) + ((v1 &&& (2147483647 : Int32)) % (15 : Int32))), .unset, .unset]) rfl kont) ?_
  refine own_bk (S' := (s₁.setTop (mkF m 24 #[iv v0, iv v1, iv v2, iv ((19456 : Int32) + ((v0 &&& (2147483647 : Int32)) % (4174849 : Int32))), iv ((2 : Int32) + ((v1 &&& (2147483647 : Int32)) % (15 : Int32))), .unset, .unset] [(.int (1 : Int32))]))) (fun t_ kont => XS.iconst X0.here hx rfl (hb hby at_23) kont) ?_
  refine own_bk (S' := (s₁.setTop (mkF m 25 #[iv v0, iv v1, iv v2, iv ((19456 : Int32) + ((v0 &&& (2147483647 : Int32)) % (4174849 : Int32))), iv ((2 : Int32) + ((v1 &&& (2147483647 : Int32)) % (15 : Int32))), .unset, .unset] [(.int v2), (.int (1 : Int32))]))) (fun t_ kont => XS.iloadN X0.here hx rfl (hb hby at_24) rfl kont) ?_
  refine own_bk (S' := (s₁.setTop (mkF m 27 #[iv v0, iv v1, iv v2, iv ((19456 : Int32) + ((v0 &&& (2147483647 : Int32)) % (4174849 : Int32))), iv ((2 : Int32) + ((v1 &&& (2147483647 : Int32)) % (15 : Int32))), .unset, .unset] [(.int (2147483647 : Int32)), (.int v2), (.int (1 : Int32))]))) (fun t_ kont => X0.ldcI hx hown (mvT hZ (hw _ (List.mem_of_getElem? (i := 0) rfl))) rfl (hb hby at_25) kont) ?_
  refine own_bk (S' := (s₁.setTop (mkF m 28 #[iv v0, iv v1, iv v2, iv ((19456 : Int32) + ((v0 &&& (2147483647 : Int32)) % (4174849 : Int32))), iv ((2 : Int32) + ((v1 &&& (2147483647 : Int32)) % (15 : Int32))), .unset, .unset] [(.int (v2 &&& (2147483647 : Int32))), (.int (1 : Int32))]))) (fun t_ kont => XS.iand X0.here hx rfl (hb hby at_27) rfl kont) ?_
  refine own_bk (S' := (s₁.setTop (mkF m 30 #[iv v0, iv v1, iv v2, iv ((19456 : Int32) + ((v0 &&& (2147483647 : Int32)) % (4174849 : Int32))), iv ((2 : Int32) + ((v1 &&& (2147483647 : Int32)) % (15 : Int32))), .unset, .unset] [(.int (16 : Int32)), (.int (v2 &&& (2147483647 : Int32))), (.int (1 : Int32))]))) (fun t_ kont => XS.bipush X0.here hx rfl (hb hby at_28) kont) ?_
  refine own_bk (S' := (s₁.setTop (mkF m 31 #[iv v0, iv v1, iv v2, iv ((19456 : Int32) + ((v0 &&& (2147483647 : Int32)) % (4174849 : Int32))), iv ((2 : Int32) + ((v1 &&& (2147483647 : Int32)) % (15 : Int32))), .unset, .unset] [(.int ((v2 &&& (2147483647 : Int32)) % (16 : Int32))), (.int (1 : Int32))]))) (fun t_ kont => iremM X0 hx rfl (hb hby at_30) rfl (by decide) kont) ?_
  refine own_bk (S' := (s₁.setTop (mkF m 32 #[iv v0, iv v1, iv v2, iv ((19456 : Int32) + ((v0 &&& (2147483647 : Int32)) % (4174849 : Int32))), iv ((2 : Int32) + ((v1 &&& (2147483647 : Int32)) % (15 : Int32))), .unset, .unset] [(.int ((1 : Int32) + ((v2 &&& (2147483647 : Int32)) % (16 : Int32))))]))) (fun t_ kont => XS.iadd X0.here hx rfl (hb hby at_31) rfl kont) ?_
  refine own_bk (S' := (s₁.setTop (mkF m 34 #[iv v0, iv v1, iv v2, iv ((19456 : Int32) + ((v0 &&& (2147483647 : Int32)) % (4174849 : Int32))), iv ((2 : Int32) + ((v1 &&& (2147483647 : Int32)) % (15 : Int32))), iv ((1 : Int32) + ((v2 &&& (2147483647 : Int32)) % (16 : Int32))), .unset] []))) (fun t_ kont => XS.istore X0.here hx rfl (hb hby at_32) rfl (l' := #[iv v0, iv v1, iv v2, iv ((19456 : Int32) + ((v0 &&& (2147483647 : Int32)) % (4174849 : Int32))), iv ((2 : Int32) + ((v1 &&& (2147483647 : Int32)) % (15 : Int32))), iv ((1 : Int32) + ((v2 &&& (2147483647 : Int32)) % (16 : Int32))), .unset]) rfl kont) ?_
  refine own_bk (S' := (s₁.setTop (mkF m 35 #[iv v0, iv v1, iv v2, iv ((19456 : Int32) + ((v0 &&& (2147483647 : Int32)) % (4174849 : Int32))), iv ((2 : Int32) + ((v1 &&& (2147483647 : Int32)) % (15 : Int32))), iv ((1 : Int32) + ((v2 &&& (2147483647 : Int32)) % (16 : Int32))), .unset] [(.int ((19456 : Int32) + ((v0 &&& (2147483647 : Int32)) % (4174849 : Int32))))]))) (fun t_ kont => XS.iloadN X0.here hx rfl (hb hby at_34) rfl kont) ?_
  refine own_bk (S' := (s₁.setTop (mkF m 37 #[iv v0, iv v1, iv v2, iv ((19456 : Int32) + ((v0 &&& (2147483647 : Int32)) % (4174849 : Int32))), iv ((2 : Int32) + ((v1 &&& (2147483647 : Int32)) % (15 : Int32))), iv ((1 : Int32) + ((v2 &&& (2147483647 : Int32)) % (16 : Int32))), .unset] [(.int ((2 : Int32) + ((v1 &&& (2147483647 : Int32)) % (15 : Int32)))), (.int ((19456 : Int32) + ((v0 &&& (2147483647 : Int32)) % (4174849 : Int32))))]))) (fun t_ kont => XS.iload X0.here hx rfl (hb hby at_35) rfl kont) ?_
  refine own_bk (S' := (s₁.setTop (mkF m 39 #[iv v0, iv v1, iv v2, iv ((19456 : Int32) + ((v0 &&& (2147483647 : Int32)) % (4174849 : Int32))), iv ((2 : Int32) + ((v1 &&& (2147483647 : Int32)) % (15 : Int32))), iv ((1 : Int32) + ((v2 &&& (2147483647 : Int32)) % (16 : Int32))), .unset] [(.int ((1 : Int32) + ((v2 &&& (2147483647 : Int32)) % (16 : Int32)))), (.int ((2 : Int32) + ((v1 &&& (2147483647 : Int32)) % (15 : Int32)))), (.int ((19456 : Int32) + ((v0 &&& (2147483647 : Int32)) % (4174849 : Int32))))]))) (fun t_ kont => XS.iload X0.here hx rfl (hb hby at_37) rfl kont) ?_
  have r0 := own_rng (v := v0) (d := 4174849) (b := 19456) (D := 4174849) (B := 19456) (by decide) (by decide) (by decide) (by decide) (by decide)
  generalize ((19456 : Int32) + ((v0 &&& (2147483647 : Int32)) % (4174849 : Int32))) = x0 at r0 ⊢
  have r1 := own_rng (v := v1) (d := 15) (b := 2) (D := 15) (B := 2) (by decide) (by decide) (by decide) (by decide) (by decide)
  generalize ((2 : Int32) + ((v1 &&& (2147483647 : Int32)) % (15 : Int32))) = x1 at r1 ⊢
  have r2 := own_rng (v := v2) (d := 16) (b := 1) (D := 16) (B := 1) (by decide) (by decide) (by decide) (by decide) (by decide)
  generalize ((1 : Int32) + ((v2 &&& (2147483647 : Int32)) % (16 : Int32))) = x2 at r2 ⊢
  obtain ⟨_, _, ⟨T1, L2, k3, n4⟩, -, X5, ⟨Lc6, hQ7, l8, y9, z10⟩, st11⟩ := Jvm.LawKit.callS X0 hx (y := (⟨"com/example/portunus/portunus/KdfSettings", "of", "(III)Lcom/example/portunus/portunus/KdfSettings;"⟩ : MethodName)) hown (mvT hZ (hw _ (List.mem_of_getElem? (i := 2) rfl))) (mvT hZ (hw _ (List.mem_of_getElem? (i := 3) rfl))) (mvT hZ (hw _ (List.mem_of_getElem? (i := 4) rfl))) (mvT hZ (hw _ (List.mem_of_getElem? (i := 5) rfl))) (by decide) (backOf (W := 0) (rm1 l Z a0 hw [] x0 x1 x2 rM h0 n0 Z0 O SM M0 M1 M2 (own_nlt r0.1) (own_nlt r1.1) (own_nlt r2.1) (own_nlt (show _ ≤ (4194304 : Int) by have := r0.2; omega)) (own_nlt (show _ ≤ (16 : Int) by have := r1.2; omega)) (own_nlt (show _ ≤ (16 : Int) by have := r2.2; omega))) hZ (hw _ (List.mem_of_getElem? (i := 5) rfl)) (hw _ (List.mem_of_getElem? (i := 4) rfl)) (by decide) (by decide)) (g := (mkF m 39 #[iv v0, iv v1, iv v2, iv x0, iv x1, iv x2, .unset] [(.int x2), (.int x1), (.int x0)])) rfl (by rw [hml]; rfl) (argsL := [(.int x0), (.int x1), (.int x2)]) (rest := []) (lenOf (by decide +kernel : parseMethodDescriptor "(III)Lcom/example/portunus/portunus/KdfSettings;" = some ⟨[.int, .int, .int], some (.object "com/example/portunus/portunus/KdfSettings")⟩) rfl) rfl (by show 2 * 0 + _ ≤ _; exact Nat.le_of_eq rfl) (hb hby at_39) (fun _ _ => ⟨rfl, e0, (by decide : 0 + 1 ≤ _), (by decide : 0 + 3 ≤ _)⟩)
  dsimp only [Pt.U, Pt.locs, Pt.cells, Pt.slots] at X5 l8 y9 z10 st11 hQ7
  subst l8 y9 z10
  obtain ⟨N12, O_, Z_, a_, rfl, E_, f0, f1, f2⟩ := hQ7
  have N14 := Fr.app N0 N12
  refine own_bk (S' := (T1.setTop (mkF m 42 #[iv v0, iv v1, iv v2, iv x0, iv x1, iv x2, .unset] [(.ref a_)]))) st11 ?_
  refine own_bk (S' := (T1.setTop (mkF m 44 #[iv v0, iv v1, iv v2, iv x0, iv x1, iv x2, rv a_] []))) (fun t_ kont => XS.astore X5.here hx rfl (hb hby at_42) rfl rfl (l' := #[iv v0, iv v1, iv v2, iv x0, iv x1, iv x2, rv a_]) rfl kont) ?_
  refine own_bk (S' := (T1.setTop (mkF m 46 #[iv v0, iv v1, iv v2, iv x0, iv x1, iv x2, rv a_] [(.ref a_)]))) (fun t_ kont => XS.aload X5.here hx rfl (hb hby at_44) rfl rfl kont) ?_
  obtain ⟨cqq26, kqq26, q26a, q26b, q26c⟩ := isOf hZ rfl E_
  obtain ⟨_, _, ⟨T15, L16, k17, n18⟩, -, X19, ⟨Lc20, hQ21, l22, y23, z24⟩, st25⟩ := X5.virtualBack hx (y := (⟨"com/example/portunus/portunus/KdfSettings", "memoryKiB", "()I"⟩ : MethodName)) (z := (⟨"com/example/portunus/portunus/KdfSettings", "memoryKiB", "()I"⟩ : MethodName)) hown (mvT hZ (hw _ (List.mem_of_getElem? (i := 23) rfl))) (mvT hZ (hw _ (List.mem_of_getElem? (i := 24) rfl))) (notFace_of_selects (args := #[]) (mvT hZ (hw _ (List.mem_of_getElem? (i := 26) rfl)))) (mvT hZ (hw _ (List.mem_of_getElem? (i := 26) rfl))) (mvT hZ (hw _ (List.mem_of_getElem? (i := 25) rfl))) (by decide) (backOf (W := 0) (rmg0 l Z a0 hw [] a_ x0 T1.heap n0 Z_ f0) hZ (hw _ (List.mem_of_getElem? (i := 27) rfl)) (hw _ (List.mem_of_getElem? (i := 4) rfl)) (by decide) (by decide)) q26a q26c (g := (mkF m 46 #[iv v0, iv v1, iv v2, iv x0, iv x1, iv x2, rv a_] [(.ref a_)])) rfl (by rw [hml]; rfl) (Steps.refl _) (argsL := []) (rest := []) (lenOf (by decide +kernel : parseMethodDescriptor "()I" = some ⟨[], some .int⟩) rfl) rfl (by show 2 * 0 + _ ≤ _; exact Nat.le_of_eq rfl) (hb hby at_46) (fun _ _ => ⟨rfl, rfl, (by decide : 1 + 0 ≤ _), (by decide : 3 + 0 ≤ _)⟩)
  dsimp only [Pt.U, Pt.locs, Pt.cells, Pt.slots] at X19 l22 y23 z24 st25 hQ21
  subst l22 y23 z24
  obtain ⟨rfl, N27, e28⟩ := hQ21
  have N29 := Fr.app N14 N27
  refine own_tr (S' := (T15.setTop (mkF m 49 #[iv v0, iv v1, iv v2, iv x0, iv x1, iv x2, rv a_] [(.int x0)]))) st25 ?_
  refine own_bk (S' := (T15.setTop (mkF m 50 #[iv v0, iv v1, iv v2, iv x0, iv x1, iv x2, rv a_] [(.int x0), (.int x0)]))) (fun t_ kont => XS.iloadN X19.here hx rfl (hb hby at_49) rfl kont) ?_
  refine own_bk (S' := (T15.setTop (mkF m 53 #[iv v0, iv v1, iv v2, iv x0, iv x1, iv x2, rv a_] []))) (fun t_ kont => XS.icmpNo X19.here hx rfl (hb hby at_50) rfl (teq (rfl : (x0) = (x0))).2 kont) ?_
  refine own_bk (S' := (T15.setTop (mkF m 55 #[iv v0, iv v1, iv v2, iv x0, iv x1, iv x2, rv a_] [(.ref a_)]))) (fun t_ kont => XS.aload X19.here hx rfl (hb hby at_53) rfl rfl kont) ?_
  obtain ⟨cqq41, kqq41, q41a, q41b, q41c⟩ := isOf hZ e28 E_
  obtain ⟨_, _, ⟨T30, L31, k32, n33⟩, -, X34, ⟨Lc35, hQ36, l37, y38, z39⟩, st40⟩ := X19.virtualBack hx (y := (⟨"com/example/portunus/portunus/KdfSettings", "passes", "()I"⟩ : MethodName)) (z := (⟨"com/example/portunus/portunus/KdfSettings", "passes", "()I"⟩ : MethodName)) hown (mvT hZ (hw _ (List.mem_of_getElem? (i := 28) rfl))) (mvT hZ (hw _ (List.mem_of_getElem? (i := 29) rfl))) (notFace_of_selects (args := #[]) (mvT hZ (hw _ (List.mem_of_getElem? (i := 31) rfl)))) (mvT hZ (hw _ (List.mem_of_getElem? (i := 31) rfl))) (mvT hZ (hw _ (List.mem_of_getElem? (i := 30) rfl))) (by decide) (backOf (W := 0) (rmg1 l Z a0 hw [] a_ x1 T1.heap n0 Z_ f1) hZ (hw _ (List.mem_of_getElem? (i := 32) rfl)) (hw _ (List.mem_of_getElem? (i := 4) rfl)) (by decide) (by decide)) q41a q41c (g := (mkF m 55 #[iv v0, iv v1, iv v2, iv x0, iv x1, iv x2, rv a_] [(.ref a_)])) rfl (by rw [hml]; rfl) (Steps.refl _) (argsL := []) (rest := []) (lenOf (by decide +kernel : parseMethodDescriptor "()I" = some ⟨[], some .int⟩) rfl) rfl (by show 2 * 0 + _ ≤ _; exact Nat.le_of_eq rfl) (hb hby at_55) (fun _ _ => ⟨rfl, e28, (by decide : 1 + 0 ≤ _), (by decide : 3 + 0 ≤ _)⟩)
  dsimp only [Pt.U, Pt.locs, Pt.cells, Pt.slots] at X34 l37 y38 z39 st40 hQ36
  subst l37 y38 z39
  obtain ⟨rfl, N42, e43⟩ := hQ36
  have N44 := Fr.app N29 N42
  refine own_tr (S' := (T30.setTop (mkF m 58 #[iv v0, iv v1, iv v2, iv x0, iv x1, iv x2, rv a_] [(.int x1)]))) st40 ?_
  refine own_bk (S' := (T30.setTop (mkF m 60 #[iv v0, iv v1, iv v2, iv x0, iv x1, iv x2, rv a_] [(.int x1), (.int x1)]))) (fun t_ kont => XS.iload X34.here hx rfl (hb hby at_58) rfl kont) ?_
  refine own_bk (S' := (T30.setTop (mkF m 63 #[iv v0, iv v1, iv v2, iv x0, iv x1, iv x2, rv a_] []))) (fun t_ kont => XS.icmpNo X34.here hx rfl (hb hby at_60) rfl (teq (rfl : (x1) = (x1))).2 kont) ?_
  refine own_bk (S' := (T30.setTop (mkF m 65 #[iv v0, iv v1, iv v2, iv x0, iv x1, iv x2, rv a_] [(.ref a_)]))) (fun t_ kont => XS.aload X34.here hx rfl (hb hby at_63) rfl rfl kont) ?_
  obtain ⟨cqq56, kqq56, q56a, q56b, q56c⟩ := isOf hZ e43 E_
  obtain ⟨_, _, ⟨T45, L46, k47, n48⟩, -, X49, ⟨Lc50, hQ51, l52, y53, z54⟩, st55⟩ := X34.virtualBack hx (y := (⟨"com/example/portunus/portunus/KdfSettings", "lanes", "()I"⟩ : MethodName)) (z := (⟨"com/example/portunus/portunus/KdfSettings", "lanes", "()I"⟩ : MethodName)) hown (mvT hZ (hw _ (List.mem_of_getElem? (i := 33) rfl))) (mvT hZ (hw _ (List.mem_of_getElem? (i := 34) rfl))) (notFace_of_selects (args := #[]) (mvT hZ (hw _ (List.mem_of_getElem? (i := 36) rfl)))) (mvT hZ (hw _ (List.mem_of_getElem? (i := 36) rfl))) (mvT hZ (hw _ (List.mem_of_getElem? (i := 35) rfl))) (by decide) (backOf (W := 0) (rmg2 l Z a0 hw [] a_ x2 T1.heap n0 Z_ f2) hZ (hw _ (List.mem_of_getElem? (i := 37) rfl)) (hw _ (List.mem_of_getElem? (i := 4) rfl)) (by decide) (by decide)) q56a q56c (g := (mkF m 65 #[iv v0, iv v1, iv v2, iv x0, iv x1, iv x2, rv a_] [(.ref a_)])) rfl (by rw [hml]; rfl) (Steps.refl _) (argsL := []) (rest := []) (lenOf (by decide +kernel : parseMethodDescriptor "()I" = some ⟨[], some .int⟩) rfl) rfl (by show 2 * 0 + _ ≤ _; exact Nat.le_of_eq rfl) (hb hby at_65) (fun _ _ => ⟨rfl, e43, (by decide : 1 + 0 ≤ _), (by decide : 3 + 0 ≤ _)⟩)
  dsimp only [Pt.U, Pt.locs, Pt.cells, Pt.slots] at X49 l52 y53 z54 st55 hQ51
  subst l52 y53 z54
  obtain ⟨rfl, N57, e58⟩ := hQ51
  have N59 := Fr.app N44 N57
  refine own_tr (S' := (T45.setTop (mkF m 68 #[iv v0, iv v1, iv v2, iv x0, iv x1, iv x2, rv a_] [(.int x2)]))) st55 ?_
  refine own_bk (S' := (T45.setTop (mkF m 70 #[iv v0, iv v1, iv v2, iv x0, iv x1, iv x2, rv a_] [(.int x2), (.int x2)]))) (fun t_ kont => XS.iload X49.here hx rfl (hb hby at_68) rfl kont) ?_
  refine own_bk (S' := (T45.setTop (mkF m 73 #[iv v0, iv v1, iv v2, iv x0, iv x1, iv x2, rv a_] []))) (fun t_ kont => XS.icmpNo X49.here hx rfl (hb hby at_70) rfl (teq (rfl : (x2) = (x2))).2 kont) ?_
  refine own_bk (S' := (T45.setTop (mkF m 74 #[iv v0, iv v1, iv v2, iv x0, iv x1, iv x2, rv a_] [(.int (1 : Int32))]))) (fun t_ kont => XS.iconst X49.here hx rfl (hb hby at_73) kont) ?_
  refine own_bk (S' := (T45.setTop (mkF m 78 #[iv v0, iv v1, iv v2, iv x0, iv x1, iv x2, rv a_] [(.int (1 : Int32))]))) (fun t_ kont => XS.goto X49.here hx rfl (pc0 := 74) (pc' := 78) rfl (hb hby at_74) (by decide) (by decide) kont) ?_
  exact own_retN X49 hx hlk (t := .boolean) (w := (1 : Int32)) Bd.returns (by simp) (hb hby at_78) rfl ⟨rfl, N59⟩ (by decide) (by decide)
set_option maxRecDepth 65536 in
set_option maxHeartbeats 40000000 in
theorem comes_1 {Post : Tables → Env → Array Value → State → Outcome → State → Prop} (hpost : ∀ tb e args s v u, (limb_1_1.after args s (.returned v) u = true ∧ limb_1_2.after args s (.returned v) u = true ∧ True) → FrameEnd s (.returned v) u (Jvm.fieldLocs frame_1_writes args s ++ Jvm.arrayLocs frame_1_arrays args s ++ Jvm.staticLocs frame_1_statics s) 16 128 → Post tb e args s (.returned v) u) :
    ArmFor flags0 classFile x code maxLocals ret World_1 tables_1 room_1 Calls_1 rest_1 Pre_1 Post := by
  intro l hfl _ _ p e ha hc hk s m args below hf hA hF happ hP
  obtain ⟨hcalls, hrest, hpre⟩ := hP
  obtain ⟨-, -, -, hnamed, -, -, -, hat⟩ := (Spec.applies_iff hf).mp happ
  obtain ⟨hg, hn⟩ := and_e (Cond.before_iff.mp (show (Jvm.Cond.and given_1 narrow_1).before args s = true from hpre))
  obtain ⟨g0, hg⟩ := and_e hg
  obtain ⟨g1, hg⟩ := and_e hg
  obtain ⟨g2, hg⟩ := and_e hg
  have g3 := hg
  obtain ⟨w0, w1, w2, rfl⟩ : ∃ w0 w1 w2 : Value, args = #[w0, w1, w2] := by
    have hs : args.size = 3 := by simpa [Cond.value, given_1] using g0
    obtain ⟨L⟩ := args
    match L, hs with
    | [w0, w1, w2], _ => exact ⟨w0, w1, w2, rfl⟩
  have hw := fun d (hd : d ∈ tables_1) => atoms_spec (ws := Jvm.Cond.code x code maxLocals ret :: tables_1) hat d (List.mem_cons_of_mem _ hd)
  have hfit : Fit s := fun {y c} hc i hi => by
    obtain ⟨ha, rfl⟩ := Array.getElem?_eq_some_iff.mp hc
    have q := List.all_eq_true.mp ((Array.all_eq_true_iff_forall_mem.mp hF) _ (Array.getElem_mem ha)) i (List.mem_range.mpr hi)
    simpa [Array.getElem?_eq_getElem hi] using q
  obtain ⟨v0, ev0⟩ := is_v g1
  obtain rfl : w0 = (.int v0) := Option.some.inj ev0
  obtain ⟨v1, ev1⟩ := is_v g2
  obtain rfl : w1 = (.int v1) := Option.some.inj ev1
  obtain ⟨v2, ev2⟩ := is_v g3
  obtain rfl : w2 = (.int v2) := Option.some.inj ev2
  obtain ⟨c0, hn⟩ := and_e hn
  obtain ⟨c1, hn⟩ := and_e hn
  obtain ⟨c2, c3⟩ := and_e hn
  obtain ⟨rM, evM⟩ := exa_v c0
  have SM : Sta s s.heap "com/example/portunus/portunus/KdfSettings" "MINIMUM" "Lcom/example/portunus/portunus/KdfSettings;" (.ref rM) := Sta.start evM (Or.inr ⟨(hw _ (List.mem_of_getElem? (i := 4) rfl)), (hw _ (List.mem_of_getElem? (i := 21) rfl))⟩)
  obtain ⟨n, o, h1, h2, h3, _, L, rfl, ⟨rfl, N⟩, hq⟩ := rm0 l s _ hw tables_1 v0 v1 v2 rM s.heap s.heap.size (Nat.le_refl _) (Old.start s) SM (Fld.start (own_fldInt c1 evM)) (Fld.start (own_fldInt c2 evM)) (Fld.start (own_fldInt c3 evM)) p e ha hc hk s m _ below hf ((Spec.applies_iff_loose hf).mp happ).1 ⟨rfl, State.Warmed39.refl s, rfl⟩ trivial
  refine ⟨n, _, h1, h2, h3, hpost _ _ _ _ _ _ ⟨Cond.after_iff.mpr rfl, Cond.after_iff.mpr (eq_i res_at (Term.int_eval (1)) rfl), trivial⟩ ⟨hq.1, hq.2.1, (hq.2.2.sift fun y hy => Or.inr (N y hy)).mono (by decide) (by decide)⟩⟩
theorem main_1_1 : Claimed_1_1 := comes_1 fun _ _ _ _ _ _ h hF => ⟨h.1, hF⟩
theorem main_1_2 : Claimed_1_2 := comes_1 fun _ _ _ _ _ _ h hF => ⟨h.2.1, hF⟩
end Jvm.Pilot.@@N@@
namespace Jvm.Pilot.@@N@@
open Jvm Jvm.ClassFile Sem Op Lib Jvm.Free Jvm.Stand Jvm.Pilot.@@N@@.Jvm.D
/-! MADE BY PROGRAM (witnessworld.py) out of the Statement's table words and the real class files: 9 classes; the members and pool entries that the words name. The judged class is class 1, her method 1. -/
namespace start1
open Jvm.ClassFile
def u (s : String) : CpInfo := .utf8 (stringToUtf16 s)
/-- a pool by its gaps: so many unusable entries, then the entry; so many at the end -/
def gap : Nat → List CpInfo → List CpInfo
  | 0, r => r
  | n + 1, r => .unusable :: gap n r
def poolList (es : List (Nat × CpInfo)) (last : Nat) : List CpInfo := es.foldr (fun e r => gap e.1 (e.2 :: r)) (gap last [])
def pool (es : List (Nat × CpInfo)) (last : Nat) : Array CpInfo := ⟨poolList es last⟩
def fileOf (pool : Array CpInfo) (this : Nat) (attrs : Array Attribute := #[]) (ms : Array MethodInfo := #[]) (fl : Nat := 33) (sup : Nat := 0) (ifs : Array Nat := #[]) (fds : Array FieldInfo := #[]) : ClassFile where
  minorVersion := 0
  majorVersion := 65
  constantPool := pool
  accessFlags := fl
  thisClass := this
  superClass := sup
  interfaces := ifs
  fields := fds
  methods := ms
  attributes := attrs
def plain (name : String) (sup : Option ClassId) : Class where
  name := name
  kind := .ordinary
  loader := none
  accessFlags := 33
  super := sup
  interfaces := #[]
  cf := none
  fields := #[]
  methods := #[]
  instanceTypes := #[]
  staticTypes := #[]
  resolved := #[]
  callSites := []
  init := .initialized
  statics := none
  mirror := none

def pool0 : Array CpInfo := pool [(5, u "<init>"), (0, u "()V"), (1, .class_ 10), (1, u "java/lang/Object")] 113

def k0c0 : Code := { maxStack := 0, maxLocals := 1, code := object_method_1_code, exceptionTable := #[], attributes := #[] }
def k0m0 : Method := { name := "<init>", desc := "()V", sig := { parameters := [], returnType := none }, accessFlags := 1, code := some k0c0 }
/-- java/lang/Object -/
def k0 : Class := { plain "java/lang/Object" none with
  accessFlags := 33
  interfaces := #[]
  cf := some (fileOf pool0 8 #[] #[{ accessFlags := 1, nameIndex := 5, descriptorIndex := 6, attributes := #[] }] 33 0 #[] #[])
  fields := #[]
  methods := #[k0m0]
  instanceTypes := #[]
  staticTypes := #[]
  resolved := Array.replicate 124 none
  statics := none }

def pool1 : Array CpInfo := pool [(2, .class_ 4), (1, u "java/lang/Object"), (0, u "<init>"), (0, u "()V"), (0, .integer 2147483647), (0, .integer 4174849), (0, .methodref 10 11), (0, .class_ 12), (0, .nameAndType 13 14), (0, u "com/example/portunus/portunus/KdfSettings"), (0, u "of"), (0, u "(III)Lcom/example/portunus/portunus/KdfSettings;"), (0, .methodref 10 16), (0, .nameAndType 17 18), (0, u "memoryKiB"), (0, u "()I"), (0, .methodref 10 20), (0, .nameAndType 21 18), (0, u "passes"), (0, .methodref 10 23), (0, .nameAndType 24 18), (0, u "lanes"), (0, .class_ 26), (0, u "com/example/portunus/portunus/KdfSettingsOfPinLaw"), (2, u "law"), (0, u "(III)Z")] 3

def k1m0 : Method := { name := "<init>", desc := "()V", sig := { parameters := [], returnType := none }, accessFlags := 1, code := none }
def k1c1 : Code := { maxStack := 3, maxLocals := 7, code := code, exceptionTable := #[], attributes := #[] }
def k1m1 : Method := { name := "law", desc := "(III)Z", sig := { parameters := [.int, .int, .int], returnType := some .boolean }, accessFlags := 9, code := some k1c1 }
/-- com/example/portunus/portunus/KdfSettingsOfPinLaw -/
def k1 : Class := { plain "com/example/portunus/portunus/KdfSettingsOfPinLaw" (some 0) with
  accessFlags := 49
  interfaces := #[]
  cf := some (fileOf pool1 25 #[] #[{ accessFlags := 1, nameIndex := 5, descriptorIndex := 6, attributes := #[] }, { accessFlags := 9, nameIndex := 29, descriptorIndex := 30, attributes := #[] }] 49 2 #[] #[])
  fields := #[]
  methods := #[k1m0, k1m1]
  instanceTypes := #[]
  staticTypes := #[]
  resolved := Array.replicate 34 none
  statics := none }

def pool2 : Array CpInfo := pool [(1, .methodref 2 3), (0, .class_ 4), (0, .nameAndType 5 6), (0, u "java/lang/Object"), (0, u "<init>"), (0, u "()V"), (0, .fieldref 8 9), (0, .class_ 10), (0, .nameAndType 11 12), (0, u "com/example/portunus/portunus/KdfSettings"), (0, u "memoryKiB"), (0, u "I"), (0, .fieldref 8 14), (0, .nameAndType 15 12), (0, u "passes"), (0, .fieldref 8 17), (0, .nameAndType 18 12), (0, u "lanes"), (0, .methodref 8 20), (0, .nameAndType 5 21), (0, u "(III)V"), (0, .fieldref 8 23), (0, .nameAndType 24 25), (0, u "MINIMUM"), (0, u "Lcom/example/portunus/portunus/KdfSettings;"), (15, .integer 4194304), (6, u "MAX_MEMORY_KIB"), (1, u "MAX_PASSES"), (1, u "MAX_LANES"), (2, u "of"), (0, u "(III)Lcom/example/portunus/portunus/KdfSettings;"), (1, u "()I")] 24

def k2c0 : Code := { maxStack := 2, maxLocals := 4, code := prog_8_method_1_code, exceptionTable := #[], attributes := #[] }
def k2m0 : Method := { name := "<init>", desc := "(III)V", sig := { parameters := [.int, .int, .int], returnType := none }, accessFlags := 2, code := some k2c0 }
def k2c1 : Code := { maxStack := 5, maxLocals := 4, code := prog_8_method_2_code, exceptionTable := #[], attributes := #[] }
def k2m1 : Method := { name := "of", desc := "(III)Lcom/example/portunus/portunus/KdfSettings;", sig := { parameters := [.int, .int, .int], returnType := some (.object "com/example/portunus/portunus/KdfSettings") }, accessFlags := 8, code := some k2c1 }
def k2c2 : Code := { maxStack := 1, maxLocals := 1, code := prog_8_method_3_code, exceptionTable := #[], attributes := #[] }
def k2m2 : Method := { name := "memoryKiB", desc := "()I", sig := { parameters := [], returnType := some .int }, accessFlags := 1, code := some k2c2 }
def k2c3 : Code := { maxStack := 1, maxLocals := 1, code := prog_8_method_4_code, exceptionTable := #[], attributes := #[] }
def k2m3 : Method := { name := "passes", desc := "()I", sig := { parameters := [], returnType := some .int }, accessFlags := 1, code := some k2c3 }
def k2c4 : Code := { maxStack := 1, maxLocals := 1, code := prog_8_method_5_code, exceptionTable := #[], attributes := #[] }
def k2m4 : Method := { name := "lanes", desc := "()I", sig := { parameters := [], returnType := some .int }, accessFlags := 1, code := some k2c4 }
/-- com/example/portunus/portunus/KdfSettings -/
def k2 : Class := { plain "com/example/portunus/portunus/KdfSettings" (some 0) with
  accessFlags := 49
  interfaces := #[]
  cf := some (fileOf pool2 8 #[] #[{ accessFlags := 2, nameIndex := 5, descriptorIndex := 21, attributes := #[] }, { accessFlags := 8, nameIndex := 55, descriptorIndex := 56, attributes := #[] }, { accessFlags := 1, nameIndex := 11, descriptorIndex := 58, attributes := #[] }, { accessFlags := 1, nameIndex := 15, descriptorIndex := 58, attributes := #[] }, { accessFlags := 1, nameIndex := 18, descriptorIndex := 58, attributes := #[] }] 49 2 #[] #[{ accessFlags := 25, nameIndex := 24, descriptorIndex := 25, attributes := #[] }, { accessFlags := 26, nameIndex := 48, descriptorIndex := 12, attributes := #[] }, { accessFlags := 26, nameIndex := 50, descriptorIndex := 12, attributes := #[] }, { accessFlags := 26, nameIndex := 52, descriptorIndex := 12, attributes := #[] }, { accessFlags := 18, nameIndex := 11, descriptorIndex := 12, attributes := #[] }, { accessFlags := 18, nameIndex := 15, descriptorIndex := 12, attributes := #[] }, { accessFlags := 18, nameIndex := 18, descriptorIndex := 12, attributes := #[] }])
  fields := #[{ name := "MINIMUM", type := (.object "com/example/portunus/portunus/KdfSettings"), accessFlags := 25, slot := 0, constantValue := 0 }, { name := "MAX_MEMORY_KIB", type := .int, accessFlags := 26, slot := 1, constantValue := 0 }, { name := "MAX_PASSES", type := .int, accessFlags := 26, slot := 2, constantValue := 0 }, { name := "MAX_LANES", type := .int, accessFlags := 26, slot := 3, constantValue := 0 }, { name := "memoryKiB", type := .int, accessFlags := 18, slot := 0, constantValue := 0 }, { name := "passes", type := .int, accessFlags := 18, slot := 1, constantValue := 0 }, { name := "lanes", type := .int, accessFlags := 18, slot := 2, constantValue := 0 }]
  methods := #[k2m0, k2m1, k2m2, k2m3, k2m4]
  instanceTypes := #[.int, .int, .int]
  staticTypes := #[(.object "com/example/portunus/portunus/KdfSettings"), .int, .int, .int]
  resolved := Array.replicate 83 none
  statics := some 0 }

def pool3 : Array CpInfo := pool [(1, u "java/lang/Cloneable"), (0, .class_ 1), (0, u "java/lang/Object"), (0, .class_ 3)] 3

/-- java/lang/Cloneable -/
def k3 : Class := { plain "java/lang/Cloneable" (some 0) with
  accessFlags := 1537
  interfaces := #[]
  cf := some (fileOf pool3 2 #[] #[] 1537 4 #[] #[])
  fields := #[]
  methods := #[]
  instanceTypes := #[]
  staticTypes := #[]
  resolved := Array.replicate 8 none
  statics := none }

def pool4 : Array CpInfo := pool [(1, u "java/io/Serializable"), (0, .class_ 1), (0, u "java/lang/Object"), (0, .class_ 3)] 3

/-- java/io/Serializable -/
def k4 : Class := { plain "java/io/Serializable" (some 0) with
  accessFlags := 1537
  interfaces := #[]
  cf := some (fileOf pool4 2 #[] #[] 1537 4 #[] #[])
  fields := #[]
  methods := #[]
  instanceTypes := #[]
  staticTypes := #[]
  resolved := Array.replicate 8 none
  statics := none }

/-- the primitive byte -/
def k5 : Class := { plain "byte" none with kind := .primitive 'B', accessFlags := 0x411 }
/-- [B -/
def k6 : Class := { plain "[B" (some 0) with kind := .array 5 .byte, interfaces := #[3, 4], accessFlags := 1041 }

/-- the primitive int -/
def k7 : Class := { plain "int" none with kind := .primitive 'I', accessFlags := 0x411 }
/-- [I -/
def k8 : Class := { plain "[I" (some 0) with kind := .array 7 .int, interfaces := #[3, 4], accessFlags := 1041 }

def heap : Heap := #[{ cls := 2, slots := #[.ref 1, .int 0, .int 0, .int 0], vm := .statics 2 },
  { cls := 2, slots := #[.int 19456, .int 2, .int 1], vm := .none }]
def classes : Array Class := #[k0, k1, k2, k3, k4, k5, k6, k7, k8]
def interned : List (Array UInt16 × Addr) := []
def slotsUsed : Nat := 7
def theMethod : MethodId := ⟨1, 1⟩
def args0 : Array Value := #[.int 5, .int 6, .int 7]
def aboutOver (below : List Frame) : State where
  vm := { classes := classes, interned := interned.toArray }
  heap := heap
  slotsUsed := slotsUsed
  threads := #[{ frames := .invoking theMethod args0 :: below }]
def below0 : List Frame := [.native { method := ⟨0, 0⟩, args := #[] }]
def about1 : State := aboutOver below0
def p0 : Program := .bare "" "" ""
def e0 : Env := launch0.env 0 0 0
theorem w_frames : about1.frames = Frame.invoking theMethod args0 :: below0 := rfl
set_option maxRecDepth 65536 in
theorem w_args : argsFit about1.vm theMethod args0 = true := by decide +kernel
set_option maxRecDepth 65536 in
theorem w_heap : heapFits about1 = true := by decide +kernel
set_option maxRecDepth 65536 in
theorem w_runnable : about1.curStatus? = some .runnable := by decide +kernel
set_option maxRecDepth 65536 in
theorem w_alone : about1.alone = true := by decide +kernel
set_option maxRecDepth 65536 in
theorem w_named : about1.methodNamed? x = some theMethod := by decide +kernel
set_option maxRecDepth 65536 in
theorem w_hears : about1.hears theMethod below0 = true := by decide +kernel
set_option maxRecDepth 65536 in
theorem w_ripe : about1.ripe theMethod args0 below0 = true := by decide +kernel
theorem w_running : about1.status = .running := rfl
set_option maxRecDepth 65536 in
theorem w_room : about1.hasRoom e0.platform room_1 = true :=
  launch0.hasRoom_least _ room_1 (by decide +kernel) (by decide +kernel) (by decide +kernel) (by decide +kernel) (by decide +kernel) (by decide +kernel)
theorem allAtoms_all (ts : List Jvm.Cond) (a : Array Jvm.Value) (st : Jvm.State) : (allAtoms ts).before a st = ts.all (fun c => c.before a st) := by
  induction ts with
  | nil => rfl
  | cons c t ih =>
    show (Jvm.Cond.and c (allAtoms t)).before a st = _
    rw [Jvm.Cond.before_and, ih, List.all_cons]
def words1 : List Jvm.Cond := Jvm.Cond.code x code maxLocals ret :: tables_1
/-- a 'code' word, met by the world's own term for the bytes: nothing is compared byte by byte -/
theorem code_word {y : MethodName} {bytes : ByteArray} {mx : Nat} {rt : Option FieldType} {a : Array Value} {s : State} {m : MethodId} {meth : Method} {c : Code} (h1 : s.methodNamed? y = some m) (h2 : s.vm.method? m = some meth) (h3 : meth.code = some c) (h4 : c.code = bytes)
    (h5 : (c.maxLocals == mx && c.exceptionTable.isEmpty && decide (c.maxStack ≤ mostOperands) && decide (meth.sig.returnType = rt) && !meth.locks && decide (parseMethodDescriptor y.desc = some meth.sig)) = true) : (Jvm.Cond.code y bytes mx rt).before a s = true := by
  simp only [Bool.and_eq_true, beq_iff_eq, Bool.not_eq_true', decide_eq_true_eq] at h5
  obtain ⟨⟨⟨⟨⟨g1, g2⟩, g3⟩, g4⟩, g5⟩, g6⟩ := h5
  simp [Cond.before, Cond.holds, Cond.value, h1, h2, h3, h4, g1, g2, g3, g4, g5, g6]
def isCode : Jvm.Cond → Bool
  | .code _ _ _ _ => true
  | _ => false
theorem all_split {L : List Jvm.Cond} {P : Jvm.Cond → Bool} (h1 : L.all (fun c => isCode c || P c) = true) (h2 : ∀ c ∈ L.filter isCode, P c = true) : L.all P = true := by
  refine List.all_eq_true.mpr fun c hc => ?_
  have h := List.all_eq_true.mp h1 c hc
  rcases Bool.eq_false_or_eq_true (isCode c) with hi | hi
  · exact h2 c (List.mem_filter.mpr ⟨hc, hi⟩)
  · simpa [hi] using h
set_option maxRecDepth 65536 in
theorem w_c0 : (Jvm.Cond.code x code maxLocals ret).before args0 about1 = true := code_word (m := ⟨1, 1⟩) (meth := k1m1) (c := k1c1) (by decide +kernel) rfl rfl rfl (by decide +kernel)
set_option maxRecDepth 65536 in
theorem w_c1 : (Jvm.Cond.code ({ cls := "com/example/portunus/portunus/KdfSettings", name := "of", desc := "(III)Lcom/example/portunus/portunus/KdfSettings;" } : Jvm.MethodName) prog_8_method_2_code (4 : Nat) (Option.some (Jvm.ClassFile.FieldType.object "com/example/portunus/portunus/KdfSettings"))).before args0 about1 = true := code_word (m := ⟨2, 1⟩) (meth := k2m1) (c := k2c1) (by decide +kernel) rfl rfl rfl (by decide +kernel)
set_option maxRecDepth 65536 in
theorem w_c2 : (Jvm.Cond.code ({ cls := "com/example/portunus/portunus/KdfSettings", name := "<init>", desc := "(III)V" } : Jvm.MethodName) prog_8_method_1_code (4 : Nat) (Option.none : Option Jvm.ClassFile.FieldType)).before args0 about1 = true := code_word (m := ⟨2, 0⟩) (meth := k2m0) (c := k2c0) (by decide +kernel) rfl rfl rfl (by decide +kernel)
set_option maxRecDepth 65536 in
theorem w_c3 : (Jvm.Cond.code ({ cls := "java/lang/Object", name := "<init>", desc := "()V" } : Jvm.MethodName) object_method_1_code (1 : Nat) (Option.none : Option Jvm.ClassFile.FieldType)).before args0 about1 = true := code_word (m := ⟨0, 0⟩) (meth := k0m0) (c := k0c0) (by decide +kernel) rfl rfl rfl (by decide +kernel)
set_option maxRecDepth 65536 in
theorem w_c4 : (Jvm.Cond.code ({ cls := "com/example/portunus/portunus/KdfSettings", name := "memoryKiB", desc := "()I" } : Jvm.MethodName) prog_8_method_3_code (1 : Nat) (Option.some Jvm.ClassFile.FieldType.int)).before args0 about1 = true := code_word (m := ⟨2, 2⟩) (meth := k2m2) (c := k2c2) (by decide +kernel) rfl rfl rfl (by decide +kernel)
set_option maxRecDepth 65536 in
theorem w_c5 : (Jvm.Cond.code ({ cls := "com/example/portunus/portunus/KdfSettings", name := "passes", desc := "()I" } : Jvm.MethodName) prog_8_method_4_code (1 : Nat) (Option.some Jvm.ClassFile.FieldType.int)).before args0 about1 = true := code_word (m := ⟨2, 3⟩) (meth := k2m3) (c := k2c3) (by decide +kernel) rfl rfl rfl (by decide +kernel)
set_option maxRecDepth 65536 in
theorem w_c6 : (Jvm.Cond.code ({ cls := "com/example/portunus/portunus/KdfSettings", name := "lanes", desc := "()I" } : Jvm.MethodName) prog_8_method_5_code (1 : Nat) (Option.some Jvm.ClassFile.FieldType.int)).before args0 about1 = true := code_word (m := ⟨2, 4⟩) (meth := k2m4) (c := k2c4) (by decide +kernel) rfl rfl rfl (by decide +kernel)
def codes1 : List Jvm.Cond := [Jvm.Cond.code x code maxLocals ret, Jvm.Cond.code ({ cls := "com/example/portunus/portunus/KdfSettings", name := "of", desc := "(III)Lcom/example/portunus/portunus/KdfSettings;" } : Jvm.MethodName) prog_8_method_2_code (4 : Nat) (Option.some (Jvm.ClassFile.FieldType.object "com/example/portunus/portunus/KdfSettings")), Jvm.Cond.code ({ cls := "com/example/portunus/portunus/KdfSettings", name := "<init>", desc := "(III)V" } : Jvm.MethodName) prog_8_method_1_code (4 : Nat) (Option.none : Option Jvm.ClassFile.FieldType), Jvm.Cond.code ({ cls := "java/lang/Object", name := "<init>", desc := "()V" } : Jvm.MethodName) object_method_1_code (1 : Nat) (Option.none : Option Jvm.ClassFile.FieldType), Jvm.Cond.code ({ cls := "com/example/portunus/portunus/KdfSettings", name := "memoryKiB", desc := "()I" } : Jvm.MethodName) prog_8_method_3_code (1 : Nat) (Option.some Jvm.ClassFile.FieldType.int), Jvm.Cond.code ({ cls := "com/example/portunus/portunus/KdfSettings", name := "passes", desc := "()I" } : Jvm.MethodName) prog_8_method_4_code (1 : Nat) (Option.some Jvm.ClassFile.FieldType.int), Jvm.Cond.code ({ cls := "com/example/portunus/portunus/KdfSettings", name := "lanes", desc := "()I" } : Jvm.MethodName) prog_8_method_5_code (1 : Nat) (Option.some Jvm.ClassFile.FieldType.int)]
set_option maxRecDepth 65536 in
theorem codes_eq : words1.filter isCode = codes1 := rfl
theorem w_codes : ∀ c ∈ words1.filter isCode, c.before args0 about1 = true := by
  rw [codes_eq]
  intro c hc
  simp only [codes1, List.mem_cons, List.not_mem_nil, or_false] at hc
  rcases hc with rfl | rfl | rfl | rfl | rfl | rfl | rfl
  · exact w_c0
  · exact w_c1
  · exact w_c2
  · exact w_c3
  · exact w_c4
  · exact w_c5
  · exact w_c6
set_option maxRecDepth 65536 in
theorem w_t1 : (words1.take 24).all (fun c => isCode c || c.before args0 about1) = true := by decide +kernel
set_option maxRecDepth 65536 in
theorem w_t2 : (words1.drop 24).all (fun c => isCode c || c.before args0 about1) = true := by decide +kernel
theorem w_tables : (allAtoms (Jvm.Cond.code x code maxLocals ret :: tables_1)).before args0 about1 = true := by
  rw [allAtoms_all]
  show words1.all (fun c => c.before args0 about1) = true
  refine all_split ?_ w_codes
  rw [← List.take_append_drop 24 words1, List.all_append, w_t1, w_t2]
  rfl
set_option maxRecDepth 65536 in
theorem w_case : (Jvm.Cond.and given_1 narrow_1).before args0 about1 = true := by decide +kernel
theorem w_applies : (headSpec (Jvm.Cond.code x code maxLocals ret :: tables_1) room_1).applies x e0.platform about1 = true :=
  (Spec.applies_iff w_frames).mpr ⟨w_running, w_runnable, w_alone, w_named, w_hears, w_ripe, w_room, w_tables⟩
theorem atStart : AtStart classFile x code maxLocals ret World_1 tables_1 room_1 Calls_1 rest_1 Pre_1 launch0 p0 e0 about1 theMethod args0 below0 :=
  ⟨lists_1, trivial, launch0.admits_env _ _ _, launch0.least_env, fairChoices_fair.cas, fairChoices_fair.clock, w_frames, w_args, w_heap, w_applies, trivial, trivial, w_case⟩
end start1
theorem witness_1 : WitnessClaimed_1 := ⟨start1.p0, start1.e0, start1.about1, start1.theMethod, start1.args0, start1.below0, start1.atStart⟩
end Jvm.Pilot.@@N@@
