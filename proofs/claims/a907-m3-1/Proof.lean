import JvmDerived
import JvmDerived.Pilot.@@N@@Statement
import JvmDerived.Pilot.@@N@@Code
set_option linter.unusedVariables false
set_option linter.unusedSimpArgs false
namespace Jvm.RoadKit
open Sem ClassFile Op Lib Jvm.Stand Jvm.Free Jvm.LawKit
section New
variable {p : Program} {l : Launch} {e : Env} {R : Room} {s : State} {m : MethodId} {args : Array Value} {below : List Frame} {meth : Method} {c : Code} {T : State} {locs : List Loc} {cells slots : Nat}
theorem retI (X : Stand p l e R s m args below meth c T locs cells slots) (hx : p.tables.exec = Jvm.exec) {pc : Nat} {Ls : Array Slot} {z : Int32} {rest : List Value} (hret : meth.sig.returnType = some .int) (hd : decode c.code pc = .ok (.ireturn, 1)) {fs : List Frame}
    (hl : ∀ (f : JFrame) (acts : List Action), f.method = m → f.locked = none → f.entered = [] → (doReturn e (T.setTop f) acts (some (.int z))).1 = T.setFrames fs) : Steps p.tables e below (T.setTop (mkF m pc Ls (.int z :: rest))) (T.setFrames fs) := by
  have hm' : T.vm.method? m = some meth := X.method'
  have hn : narrow .int (.int z) = .int z := rfl
  show Steps p.tables e below (T.setTop { method := m, pc := pc, locals := Ls, stack := _ :: rest, locked := none }) _
  jvm_step X.here [X.here.top, hx, hd, hm', hret, hn]
  first | (intro acts; rw [hl _ acts rfl rfl rfl]) | rw [hl _ _ rfl rfl rfl]
  exact Steps.refl _
end New
end Jvm.RoadKit
namespace Jvm.Pilot.@@N@@
open Jvm Jvm.ClassFile Sem Op Lib Jvm.Free Jvm.Stand Jvm.LawKit Jvm.RoadKit Bundle Jvm.Pilot.@@N@@.Jvm.D
def own_R (s : State) (below : List Frame) (Q : Option Value → Heap → List Loc → Prop) (rc rs : Nat) (t : State) (o : Outcome) : Prop := t.status = .running ∧ Ended t below o ∧ ∃ v L, o = .returned v ∧ Q v t.heap L ∧ FrameEnd s o t L rc rs
def own_RW (s : State) (below : List Frame) (Q : Option Value → Heap → List Loc → Prop) (rc rs : Nat) (t : State) (o : Outcome) : Prop := t.status = .running ∧ Ended t below o ∧ ∃ v L, o = .returned v ∧ Q v t.heap L ∧ ReturnedEndW s o t L rc rs
def own_Go (p : Program) (e : Env) (below : List Frame) (Rr : State → Outcome → Prop) (S : State) : Prop := ∃ t o, Steps p.tables e below S t ∧ Rr t o
section OwnGo
variable {p : Program} {l : Launch} {e : Env} {R : Room} {s : State} {m : MethodId} {args : Array Value} {below : List Frame} {meth : Method} {c : Code} {T : State} {locs : List Loc} {cells slots : Nat} {Q : Option Value → Heap → List Loc → Prop} {rc rs : Nat} {S S' : State} {Rr : State → Outcome → Prop}
theorem own_bk (st : ∀ t, Steps p.tables e below S' t → Steps p.tables e below S t) (k : own_Go p e below Rr S') : own_Go p e below Rr S := by
  obtain ⟨t, o, h1, h2⟩ := k; exact ⟨t, o, st t h1, h2⟩
theorem own_seg (f : own_Go p e below Rr S' → own_Go p e below Rr S) (k : own_Go p e below Rr S') : own_Go p e below Rr S := f k
theorem own_tr (st : Steps p.tables e below S S') (k : own_Go p e below Rr S') : own_Go p e below Rr S := own_bk (fun t k => st.trans k) k
theorem own_retN (X : Stand p l e R s m args below meth c T locs cells slots) (hx : p.tables.exec = Jvm.exec) (hlk : meth.locks = false) {pc : Nat} {Ls : Array Slot} {z w : Int32} {t : FieldType} {rest : List Value} (hret : meth.sig.returnType = some t) (ht : t = .boolean ∨ t = .byte ∨ t = .char ∨ t = .short) (hd : decode c.code pc = .ok (.ireturn, 1)) (hz : nar t z = w)
    (hQ : Q (some (.int w)) T.heap locs) (hc : cells ≤ rc) (hs : slots ≤ rs) : own_Go p e below (own_R s below Q rc rs) (T.setTop (mkF m pc Ls (.int z :: rest))) := by
  subst hz
  obtain ⟨fs, hr, hrun, hended, hW, hsame⟩ := X.leave (v := some (.int (nar t z))) (fun h => by rw [hret] at h; cases h) hlk
  exact ⟨_, _, retN X hx hret ht hd hr, hrun, hended, _, _, rfl, hQ, ⟨_, rfl⟩, hW, hsame.mono hc hs⟩
theorem own_retNW {vm1 : Vm} {n1 : Nat} (hS : s.Since vm1 n1) (X : Stand p l e R (s.setVm vm1) m args below meth c T locs cells slots) (hn1 : n1 ≤ T.heap.size) (hx : p.tables.exec = Jvm.exec) (hlk : meth.locks = false) {pc : Nat} {Ls : Array Slot} {z w : Int32} {t : FieldType} {rest : List Value} (hret : meth.sig.returnType = some t) (ht : t = .boolean ∨ t = .byte ∨ t = .char ∨ t = .short) (hd : decode c.code pc = .ok (.ireturn, 1)) (hz : nar t z = w)
    (hQ : Q (some (.int w)) T.heap locs) (hc : cells ≤ rc) (hs : slots ≤ rs) : own_Go p e below (own_RW s below Q rc rs) (T.setTop (mkF m pc Ls (.int z :: rest))) := by
  subst hz
  obtain ⟨fs, hr, hrun, hended, hE⟩ := X.leaveW hS hn1 (v := some (.int (nar t z))) (fun h => by rw [hret] at h; cases h) hlk
  exact ⟨_, _, retN X hx hret ht hd hr, hrun, hended, _, _, rfl, hQ, hE.1, hE.2.1, hE.2.2.1, hE.2.2.2.mono hc hs⟩
theorem own_retI (X : Stand p l e R s m args below meth c T locs cells slots) (hx : p.tables.exec = Jvm.exec) (hlk : meth.locks = false) {pc : Nat} {Ls : Array Slot} {z : Int32} {rest : List Value} (hret : meth.sig.returnType = some .int) (hd : decode c.code pc = .ok (.ireturn, 1))
    (hQ : Q (some (.int z)) T.heap locs) (hc : cells ≤ rc) (hs : slots ≤ rs) : own_Go p e below (own_R s below Q rc rs) (T.setTop (mkF m pc Ls (.int z :: rest))) := by
  obtain ⟨fs, hr, hrun, hended, hW, hsame⟩ := X.leave (v := some (.int z)) (fun h => by rw [hret] at h; cases h) hlk
  exact ⟨_, _, retI X hx hret hd hr, hrun, hended, _, _, rfl, hQ, ⟨_, rfl⟩, hW, hsame.mono hc hs⟩
theorem own_retIW {vm1 : Vm} {n1 : Nat} (hS : s.Since vm1 n1) (X : Stand p l e R (s.setVm vm1) m args below meth c T locs cells slots) (hn1 : n1 ≤ T.heap.size) (hx : p.tables.exec = Jvm.exec) (hlk : meth.locks = false) {pc : Nat} {Ls : Array Slot} {z : Int32} {rest : List Value} (hret : meth.sig.returnType = some .int) (hd : decode c.code pc = .ok (.ireturn, 1))
    (hQ : Q (some (.int z)) T.heap locs) (hc : cells ≤ rc) (hs : slots ≤ rs) : own_Go p e below (own_RW s below Q rc rs) (T.setTop (mkF m pc Ls (.int z :: rest))) := by
  obtain ⟨fs, hr, hrun, hended, hE⟩ := X.leaveW hS hn1 (v := some (.int z)) (fun h => by rw [hret] at h; cases h) hlk
  exact ⟨_, _, retI X hx hret hd hr, hrun, hended, _, _, rfl, hQ, hE.1, hE.2.1, hE.2.2.1, hE.2.2.2.mono hc hs⟩
theorem own_retJ (X : Stand p l e R s m args below meth c T locs cells slots) (hx : p.tables.exec = Jvm.exec) (hlk : meth.locks = false) {pc : Nat} {Ls : Array Slot} {z : Int64} {rest : List Value} (hret : meth.sig.returnType = some .long) (hd : decode c.code pc = .ok (.lreturn, 1))
    (hQ : Q (some (.long z)) T.heap locs) (hc : cells ≤ rc) (hs : slots ≤ rs) : own_Go p e below (own_R s below Q rc rs) (T.setTop (mkF m pc Ls (.long z :: rest))) := by
  obtain ⟨fs, hr, hrun, hended, hW, hsame⟩ := X.leave (v := some (.long z)) (fun h => by rw [hret] at h; cases h) hlk
  exact ⟨_, _, retOut X hx hret rfl (Or.inr (Or.inl ⟨rfl, rfl, z, rfl⟩)) hd hr, hrun, hended, _, _, rfl, hQ, ⟨_, rfl⟩, hW, hsame.mono hc hs⟩
theorem own_retJW {vm1 : Vm} {n1 : Nat} (hS : s.Since vm1 n1) (X : Stand p l e R (s.setVm vm1) m args below meth c T locs cells slots) (hn1 : n1 ≤ T.heap.size) (hx : p.tables.exec = Jvm.exec) (hlk : meth.locks = false) {pc : Nat} {Ls : Array Slot} {z : Int64} {rest : List Value} (hret : meth.sig.returnType = some .long) (hd : decode c.code pc = .ok (.lreturn, 1))
    (hQ : Q (some (.long z)) T.heap locs) (hc : cells ≤ rc) (hs : slots ≤ rs) : own_Go p e below (own_RW s below Q rc rs) (T.setTop (mkF m pc Ls (.long z :: rest))) := by
  obtain ⟨fs, hr, hrun, hended, hE⟩ := X.leaveW hS hn1 (v := some (.long z)) (fun h => by rw [hret] at h; cases h) hlk
  exact ⟨_, _, retOut X hx hret rfl (Or.inr (Or.inl ⟨rfl, rfl, z, rfl⟩)) hd hr, hrun, hended, _, _, rfl, hQ, hE.1, hE.2.1, hE.2.2.1, hE.2.2.2.mono hc hs⟩
theorem own_retA (X : Stand p l e R s m args below meth c T locs cells slots) (hx : p.tables.exec = Jvm.exec) (hlk : meth.locks = false) {pc : Nat} {Ls : Array Slot} {w : Value} {t : FieldType} {rest : List Value} (hret : meth.sig.returnType = some t) (ht : t.isReference = true) (hw : w.isRef = true) (hn : narrow t w = w) (hd : decode c.code pc = .ok (.areturn, 1))
    (hQ : Q (some w) T.heap locs) (hc : cells ≤ rc) (hs : slots ≤ rs) : own_Go p e below (own_R s below Q rc rs) (T.setTop (mkF m pc Ls (w :: rest))) := by
  obtain ⟨fs, hr, hrun, hended, hW, hsame⟩ := X.leave (v := some w) (fun h => by rw [hret] at h; cases h) hlk
  exact ⟨_, _, retOut X hx hret hn (Or.inr (Or.inr (Or.inr (Or.inr ⟨rfl, ht, hw⟩)))) hd hr, hrun, hended, _, _, rfl, hQ, ⟨_, rfl⟩, hW, hsame.mono hc hs⟩
theorem own_retAW {vm1 : Vm} {n1 : Nat} (hS : s.Since vm1 n1) (X : Stand p l e R (s.setVm vm1) m args below meth c T locs cells slots) (hn1 : n1 ≤ T.heap.size) (hx : p.tables.exec = Jvm.exec) (hlk : meth.locks = false) {pc : Nat} {Ls : Array Slot} {w : Value} {t : FieldType} {rest : List Value} (hret : meth.sig.returnType = some t) (ht : t.isReference = true) (hw : w.isRef = true) (hn : narrow t w = w) (hd : decode c.code pc = .ok (.areturn, 1))
    (hQ : Q (some w) T.heap locs) (hc : cells ≤ rc) (hs : slots ≤ rs) : own_Go p e below (own_RW s below Q rc rs) (T.setTop (mkF m pc Ls (w :: rest))) := by
  obtain ⟨fs, hr, hrun, hended, hE⟩ := X.leaveW hS hn1 (v := some w) (fun h => by rw [hret] at h; cases h) hlk
  exact ⟨_, _, retOut X hx hret hn (Or.inr (Or.inr (Or.inr (Or.inr ⟨rfl, ht, hw⟩)))) hd hr, hrun, hended, _, _, rfl, hQ, hE.1, hE.2.1, hE.2.2.1, hE.2.2.2.mono hc hs⟩
theorem own_retV (X : Stand p l e R s m args below meth c T locs cells slots) (hx : p.tables.exec = Jvm.exec) (hlk : meth.locks = false) {pc : Nat} {Ls : Array Slot} (hret : meth.sig.returnType = none) (hd : decode c.code pc = .ok (.return_, 1))
    (hQ : Q none T.heap locs) (hc : cells ≤ rc) (hs : slots ≤ rs) : own_Go p e below (own_R s below Q rc rs) (T.setTop (mkF m pc Ls [])) := by
  obtain ⟨fs, hr, hrun, hended, hW, hsame⟩ := X.leave (v := none) (fun _ => rfl) hlk
  exact ⟨_, _, X.returnOut hx hret hd hr, hrun, hended, _, _, rfl, hQ, ⟨_, rfl⟩, hW, hsame.mono hc hs⟩
theorem own_retVW {vm1 : Vm} {n1 : Nat} (hS : s.Since vm1 n1) (X : Stand p l e R (s.setVm vm1) m args below meth c T locs cells slots) (hn1 : n1 ≤ T.heap.size) (hx : p.tables.exec = Jvm.exec) (hlk : meth.locks = false) {pc : Nat} {Ls : Array Slot} (hret : meth.sig.returnType = none) (hd : decode c.code pc = .ok (.return_, 1))
    (hQ : Q none T.heap locs) (hc : cells ≤ rc) (hs : slots ≤ rs) : own_Go p e below (own_RW s below Q rc rs) (T.setTop (mkF m pc Ls [])) := by
  obtain ⟨fs, hr, hrun, hended, hE⟩ := X.leaveW hS hn1 (v := none) (fun _ => rfl) hlk
  exact ⟨_, _, X.returnOut hx hret hd hr, hrun, hended, _, _, rfl, hQ, hE.1, hE.2.1, hE.2.2.1, hE.2.2.2.mono hc hs⟩
end OwnGo
/-- an enum constant of the start: what its static holds, its class, its ordinal -/
def own_E (Z : State) (h : Heap) (r : Addr) (C n d : String) (k : Int32) : Prop := Sta Z h C n d (.ref r) ∧ Exa Z h r C ∧ Fld Z h r "java/lang/Enum" "ordinal" "I" (.int k)
theorem own_E.ext {Z : State} {h h' : Heap} {r : Addr} {C n d : String} {k : Int32} (G : own_E Z h r C n d k) (E : Ext h h') : own_E Z h' r C n d k := ⟨G.1.ext E, G.2.1.ext E, G.2.2.ext E⟩
theorem own_E.ne {Z : State} {h : Heap} {r r' : Addr} {C n d C' n' d' : String} {k k' : Int32} (G : own_E Z h r C n d k) (G' : own_E Z h r' C' n' d' k') (q : k ≠ k') : r ≠ r' := Fld.ne G.2.2 G'.2.2 (fun e => q (Value.int.inj e))
theorem own_fldInt {args : Array Value} {s : State} {t : Term} {C n d : String} {k : Int32} {a : Addr} (h : (Jvm.Cond.eq (.field t C n d) (.int k)).value args s none s [] = some true) (ev : t.eval args s none [] s = some (.ref a)) : s.fieldOf? a C n d = some (.int k) := by
  obtain ⟨x, y, h1, h2, h3, h4⟩ := cmp_v (Or.inl h)
  have h5 : (Term.int k).eval args s none [] s = some (.int k) := Term.int_eval k
  cases h5.symm.trans h2
  obtain ⟨z, rfl⟩ := h4
  have h6 : z = k := gotT (Cond.eq_ints h1 h5) h
  subst h6
  rw [← fld_at ev]; exact h1
theorem own_eq1 {x y : Int32} (h : x = y) : if_icmp.holds .eq x y = true := (teq h).1

theorem own_pos {c : Int32} (h1 : ¬ c < 0) (h2 : ¬ c = 0) : 0 < c := by
  have e0 : (0 : Int32).toInt = 0 := by decide
  have h3 : c.toInt ≠ 0 := fun q => h2 (Int32.toInt_inj.mp (by rw [e0]; exact q))
  rw [Int32.lt_iff_toInt_lt, e0] at h1 ⊢
  omega
theorem own_neg {c : Int32} (h : c < 0) : ¬ 0 < c := by
  have e0 : (0 : Int32).toInt = 0 := by decide
  rw [Int32.lt_iff_toInt_lt, e0] at h ⊢
  omega
theorem d3_0 : decode jdk_37_method_2_code 0 = .ok (.aload_n 0, 1) := by decide +kernel
theorem d3_1 : decode jdk_37_method_2_code 1 = .ok (.getfield 7, 3) := by decide +kernel
theorem d3_4 : decode jdk_37_method_2_code 4 = .ok (.ireturn, 1) := by decide +kernel
theorem ef_rm3 (m : MethodId) (x0 : Addr) : entryFrame m #[(.ref x0)] 1 = mkF m 0 #[.val (.ref x0)] [] := by first | (simp [entryFrame, mkF, argsToLocals, Value.category, maxLocals]; done) | rfl
def Q_rm3 (Z : State) (a : Addr) (k : Int32) (h0 : Heap) (n0 : Nat) (v : Option Value) (h : Heap) (L : List Loc) : Prop := v = some (.int k) ∧ Fr n0 L ∧ h = h0
set_option maxRecDepth 65536 in
set_option maxHeartbeats 40000000 in
theorem rm3 (l : Launch) (Z : State) (a0 : Array Value) (hw : ∀ d ∈ tables_1, d.before a0 Z = true) (ws : List Jvm.Cond) (a : Addr) (k : Int32) (h0 : Heap) (n0 : Nat) (Z0 : n0 ≤ h0.size) (F : Fld Z h0 a "java/lang/Enum" "ordinal" "I" (.int k)) :
    MetFree l (⟨"java/lang/Enum", "ordinal", "()I"⟩ : MethodName) (head1 (Jvm.Cond.code (⟨"java/lang/Enum", "ordinal", "()I"⟩ : MethodName) jdk_37_method_2_code 1 (some .int) :: ws) ({ frames := 0, cells := 0, slots := 0, locals := 0 } : Room)) (fun as_ U_ => as_ = #[(.ref a)] ∧ Z.Warmed39 U_.vm ∧ U_.heap = h0) (fun _ _ _ _ _ => True) (fun _ U_ o_ U2_ => ∃ v_ L_, o_ = .returned v_ ∧ (Q_rm3 Z a k h0 n0) v_ U2_.heap L_ ∧ FrameEnd U_ o_ U2_ L_ ({ frames := 0, cells := 0, slots := 0, locals := 0 } : Room).cells ({ frames := 0, cells := 0, slots := 0, locals := 0 } : Room).slots) := by
  refine MetFree.of_bodySF (plainFor_of_name (by first | (simp [plainName, overriddenIn]; done) | decide +kernel : plainName "java/lang/Enum" = true)) hisR ?_
  intro p e s m args below meth c s₁ Bd hml0 hP hK
  obtain ⟨rfl, hZ, hh⟩ := hP
  have hx := Bd.exec
  have hby := Bd.bytes
  have hlk := Bd.notSynchronized
  have hml : c.maxLocals = 1 := hml0
  have hown : s.vm.findClass "java/lang/Enum" = some m.cls := findClass_of_methodNamed Bd.named
  have hnm := (name_of_methodNamed Bd.named Bd.method).1
  have X0 : Stand p l e ({ frames := 0, cells := 0, slots := 0, locals := 0 } : Room) s m #[(.ref a)] below meth c s₁ [] 0 0 := Stand.of_body Bd
  have e0 : s₁.heap = h0 := by rw [← hh, Bd.state]; rfl
  have N0 := Fr.nil n0
  show own_Go p e below (own_R s below (Q_rm3 Z a k h0 n0) ({ frames := 0, cells := 0, slots := 0, locals := 0 } : Room).cells ({ frames := 0, cells := 0, slots := 0, locals := 0 } : Room).slots) (s₁.setTop (entryFrame m #[(.ref a)] 1))
  refine own_bk (S' := (s₁.setTop (mkF m 0 #[rv a] []))) (fun t_ kont => castTop (ef_rm3 m (a)) kont) ?_
  refine own_bk (S' := (s₁.setTop (mkF m 1 #[rv a] [(.ref a)]))) (fun t_ kont => XS.aloadN X0.here hx rfl (hb hby d3_0) rfl rfl kont) ?_
  obtain ⟨T1, X2, e3, st4⟩ := getF X0 hx hZ hown (host := "") (Or.inl (hw _ (List.mem_of_getElem? (i := 19) rfl))) Via.refl e0 F (g := (mkF m 1 #[rv a] [(.ref a)])) rfl rfl (hb hby d3_1)
  refine own_bk (S' := (T1.setTop (mkF m 4 #[rv a] [(.int k)]))) st4 ?_
  exact own_retI X2 hx hlk Bd.returns (hb hby d3_4) ⟨rfl, N0, e3⟩ (by decide) (by decide)
theorem d2_0 : decode prog_61_method_5_code 0 = .ok (.aload_n 0, 1) := by decide +kernel
theorem d2_1 : decode prog_61_method_5_code 1 = .ok (.invokevirtual 56, 3) := by decide +kernel
theorem d2_4 : decode prog_61_method_5_code 4 = .ok (.tableswitch 32 0 3 #[42, 54, 66, 78], 32) := by decide +kernel
theorem d2_36 : decode prog_61_method_5_code 36 = .ok (.new 60, 3) := by decide +kernel
theorem d2_39 : decode prog_61_method_5_code 39 = .ok (.dup, 1) := by decide +kernel
theorem d2_40 : decode prog_61_method_5_code 40 = .ok (.aconst_null, 1) := by decide +kernel
theorem d2_41 : decode prog_61_method_5_code 41 = .ok (.aconst_null, 1) := by decide +kernel
theorem d2_42 : decode prog_61_method_5_code 42 = .ok (.invokespecial 62, 3) := by decide +kernel
theorem d2_45 : decode prog_61_method_5_code 45 = .ok (.athrow, 1) := by decide +kernel
theorem d2_46 : decode prog_61_method_5_code 46 = .ok (.iload_n 1, 1) := by decide +kernel
theorem d2_47 : decode prog_61_method_5_code 47 = .ok (.ifCond .lt 7, 3) := by decide +kernel
theorem d2_50 : decode prog_61_method_5_code 50 = .ok (.iconst 1, 1) := by decide +kernel
theorem d2_51 : decode prog_61_method_5_code 51 = .ok (.goto 40, 3) := by decide +kernel
theorem d2_54 : decode prog_61_method_5_code 54 = .ok (.iconst 0, 1) := by decide +kernel
theorem d2_55 : decode prog_61_method_5_code 55 = .ok (.goto 36, 3) := by decide +kernel
theorem d2_58 : decode prog_61_method_5_code 58 = .ok (.iload_n 1, 1) := by decide +kernel
theorem d2_59 : decode prog_61_method_5_code 59 = .ok (.ifCond .le 7, 3) := by decide +kernel
theorem d2_62 : decode prog_61_method_5_code 62 = .ok (.iconst 1, 1) := by decide +kernel
theorem d2_63 : decode prog_61_method_5_code 63 = .ok (.goto 28, 3) := by decide +kernel
theorem d2_66 : decode prog_61_method_5_code 66 = .ok (.iconst 0, 1) := by decide +kernel
theorem d2_67 : decode prog_61_method_5_code 67 = .ok (.goto 24, 3) := by decide +kernel
theorem d2_70 : decode prog_61_method_5_code 70 = .ok (.iload_n 1, 1) := by decide +kernel
theorem d2_71 : decode prog_61_method_5_code 71 = .ok (.ifCond .gt 7, 3) := by decide +kernel
theorem d2_74 : decode prog_61_method_5_code 74 = .ok (.iconst 1, 1) := by decide +kernel
theorem d2_75 : decode prog_61_method_5_code 75 = .ok (.goto 16, 3) := by decide +kernel
theorem d2_78 : decode prog_61_method_5_code 78 = .ok (.iconst 0, 1) := by decide +kernel
theorem d2_79 : decode prog_61_method_5_code 79 = .ok (.goto 12, 3) := by decide +kernel
theorem d2_82 : decode prog_61_method_5_code 82 = .ok (.iload_n 1, 1) := by decide +kernel
theorem d2_83 : decode prog_61_method_5_code 83 = .ok (.ifCond .ge 7, 3) := by decide +kernel
theorem d2_86 : decode prog_61_method_5_code 86 = .ok (.iconst 1, 1) := by decide +kernel
theorem d2_87 : decode prog_61_method_5_code 87 = .ok (.goto 4, 3) := by decide +kernel
theorem d2_90 : decode prog_61_method_5_code 90 = .ok (.iconst 0, 1) := by decide +kernel
theorem d2_91 : decode prog_61_method_5_code 91 = .ok (.ireturn, 1) := by decide +kernel
theorem ef_rm2_0 (m : MethodId) (x0 : Addr) (x1 : Int32) : entryFrame m #[(.ref x0), (.int x1)] 2 = mkF m 0 #[.val (.ref x0), .val (.int x1)] [] := by first | (simp [entryFrame, mkF, argsToLocals, Value.category, maxLocals]; done) | rfl
def Q_rm2_0 (Z : State) (a : Addr) (cc b : Int32) (h0 : Heap) (n0 : Nat) (v : Option Value) (h : Heap) (L : List Loc) : Prop := v = some (.int b) ∧ Fr n0 L ∧ h = h0
set_option maxRecDepth 65536 in
set_option maxHeartbeats 40000000 in
theorem rm2_0 (l : Launch) (Z : State) (a0 : Array Value) (hw : ∀ d ∈ tables_1, d.before a0 Z = true) (ws : List Jvm.Cond) (a : Addr) (cc b : Int32) (h0 : Heap) (n0 : Nat) (Z0 : n0 ≤ h0.size) (E : Exa Z h0 a "com/example/markupkeel/markupkeel/schema/Facet$Bound$Kind") (F : Fld Z h0 a "java/lang/Enum" "ordinal" "I" (.int 0)) (hv : (if cc < 0 then 0 else 1 : Int32) = b) :
    MetFree l (⟨"com/example/markupkeel/markupkeel/schema/Facet$Bound$Kind", "holds", "(I)Z"⟩ : MethodName) (head1 (Jvm.Cond.code (⟨"com/example/markupkeel/markupkeel/schema/Facet$Bound$Kind", "holds", "(I)Z"⟩ : MethodName) prog_61_method_5_code 2 (some .boolean) :: ws) ({ frames := 1, cells := 0, slots := 0, locals := 12 } : Room)) (fun as_ U_ => as_ = #[(.ref a), (.int cc)] ∧ Z.Warmed39 U_.vm ∧ U_.heap = h0) (fun _ _ _ _ _ => True) (fun _ U_ o_ U2_ => ∃ v_ L_, o_ = .returned v_ ∧ (Q_rm2_0 Z a cc b h0 n0) v_ U2_.heap L_ ∧ FrameEnd U_ o_ U2_ L_ ({ frames := 1, cells := 0, slots := 0, locals := 12 } : Room).cells ({ frames := 1, cells := 0, slots := 0, locals := 12 } : Room).slots) := by
  refine MetFree.of_bodySF (plainFor_of_name (by first | (simp [plainName, overriddenIn]; done) | decide +kernel : plainName "com/example/markupkeel/markupkeel/schema/Facet$Bound$Kind" = true)) hisR ?_
  intro p e s m args below meth c s₁ Bd hml0 hP hK
  obtain ⟨rfl, hZ, hh⟩ := hP
  have hx := Bd.exec
  have hby := Bd.bytes
  have hlk := Bd.notSynchronized
  have hml : c.maxLocals = 2 := hml0
  have hown : s.vm.findClass "com/example/markupkeel/markupkeel/schema/Facet$Bound$Kind" = some m.cls := findClass_of_methodNamed Bd.named
  have hnm := (name_of_methodNamed Bd.named Bd.method).1
  have X0 : Stand p l e ({ frames := 1, cells := 0, slots := 0, locals := 12 } : Room) s m #[(.ref a), (.int cc)] below meth c s₁ [] 0 0 := Stand.of_body Bd
  have e0 : s₁.heap = h0 := by rw [← hh, Bd.state]; rfl
  have N0 := Fr.nil n0
  show own_Go p e below (own_R s below (Q_rm2_0 Z a cc b h0 n0) ({ frames := 1, cells := 0, slots := 0, locals := 12 } : Room).cells ({ frames := 1, cells := 0, slots := 0, locals := 12 } : Room).slots) (s₁.setTop (entryFrame m #[(.ref a), (.int cc)] 2))
  refine own_bk (S' := (s₁.setTop (mkF m 0 #[rv a, iv cc] []))) (fun t_ kont => castTop (ef_rm2_0 m (a) (cc)) kont) ?_
  refine own_bk (S' := (s₁.setTop (mkF m 1 #[rv a, iv cc] [(.ref a)]))) (fun t_ kont => XS.aloadN X0.here hx rfl (hb hby d2_0) rfl rfl kont) ?_
  obtain ⟨cqq12, kqq12, q12a, q12b, q12c⟩ := isOf hZ e0 E
  obtain ⟨_, _, ⟨T1, L2, k3, n4⟩, -, X5, ⟨Lc6, hQ7, l8, y9, z10⟩, st11⟩ := X0.virtualBackUp hx (x := (⟨"com/example/markupkeel/markupkeel/schema/Facet$Bound$Kind", "ordinal", "()I"⟩ : MethodName)) (y := (⟨"java/lang/Enum", "ordinal", "()I"⟩ : MethodName)) hown (mvT hZ (hw _ (List.mem_of_getElem? (i := 12) rfl))) (mvT hZ (hw _ (List.mem_of_getElem? (i := 13) rfl))) (mvT hZ (hw _ (List.mem_of_getElem? (i := 14) rfl))) (by decide) (mvT hZ (hw _ (List.mem_of_getElem? (i := 16) rfl))) (mvT hZ (hw _ (List.mem_of_getElem? (i := 15) rfl))) (backOf (W := 0) (rm3 l Z a0 hw [] a 0 h0 n0 Z0 F) hZ (hw _ (List.mem_of_getElem? (i := 18) rfl)) (hw _ (List.mem_of_getElem? (i := 17) rfl)) (by decide) (by decide)) q12a q12c (g := (mkF m 1 #[rv a, iv cc] [(.ref a)])) rfl (by rw [hml]; rfl) (Steps.refl _) (argsL := []) (rest := []) (lenOf (by decide +kernel : parseMethodDescriptor "()I" = some ⟨[], some .int⟩) rfl) rfl (by show 2 * 0 + _ ≤ _; exact Nat.le_of_eq rfl) (hb hby d2_1) (fun _ _ => ⟨rfl, e0, (by decide : 0 + 0 ≤ _), (by decide : 0 + 0 ≤ _)⟩)
  dsimp only [Pt.U, Pt.locs, Pt.cells, Pt.slots] at X5 l8 y9 z10 st11 hQ7
  subst l8 y9 z10
  obtain ⟨rfl, N13, e14⟩ := hQ7
  have N15 := Fr.app N0 N13
  refine own_tr (S' := (T1.setTop (mkF m 4 #[rv a, iv cc] [(.int (0 : Int32))]))) st11 ?_
  refine own_bk (S' := (T1.setTop (mkF m 46 #[rv a, iv cc] []))) (fun t_ kont => XS.tswIn X5.here hx rfl (pc0 := 4) (pc' := 46) rfl (hb hby d2_4) rfl (by decide) (o := 42) rfl (by decide) (by decide) kont) ?_
  refine own_bk (S' := (T1.setTop (mkF m 47 #[rv a, iv cc] [(.int cc)]))) (fun t_ kont => XS.iloadN X5.here hx rfl (hb hby d2_46) rfl kont) ?_
  by_cases hc16 : (cc) < ((0 : Int32))
  · refine own_bk (S' := (T1.setTop (mkF m 54 #[rv a, iv cc] []))) (fun t_ kont => XS.ifYes X5.here hx rfl (pc0 := 47) (pc' := 54) rfl (hb hby d2_47) rfl ((if0 _ _).trans (tlt (hc16)).1) (by decide) (by decide) kont) ?_
    refine own_bk (S' := (T1.setTop (mkF m 55 #[rv a, iv cc] [(.int (0 : Int32))]))) (fun t_ kont => XS.iconst X5.here hx rfl (hb hby d2_54) kont) ?_
    refine own_bk (S' := (T1.setTop (mkF m 91 #[rv a, iv cc] [(.int (0 : Int32))]))) (fun t_ kont => XS.goto X5.here hx rfl (pc0 := 55) (pc' := 91) rfl (hb hby d2_55) (by decide) (by decide) kont) ?_
    exact own_retN X5 hx hlk (t := .boolean) (w := (0 : Int32)) Bd.returns (by simp) (hb hby d2_91) rfl ⟨by rw [← hv]; simp [hc16], N15, e14⟩ (by decide) (by decide)
  · refine own_bk (S' := (T1.setTop (mkF m 50 #[rv a, iv cc] []))) (fun t_ kont => XS.ifNo X5.here hx rfl (hb hby d2_47) rfl ((if0 _ _).trans (flt (hc16)).1) kont) ?_
    refine own_bk (S' := (T1.setTop (mkF m 51 #[rv a, iv cc] [(.int (1 : Int32))]))) (fun t_ kont => XS.iconst X5.here hx rfl (hb hby d2_50) kont) ?_
    refine own_bk (S' := (T1.setTop (mkF m 91 #[rv a, iv cc] [(.int (1 : Int32))]))) (fun t_ kont => XS.goto X5.here hx rfl (pc0 := 51) (pc' := 91) rfl (hb hby d2_51) (by decide) (by decide) kont) ?_
    exact own_retN X5 hx hlk (t := .boolean) (w := (1 : Int32)) Bd.returns (by simp) (hb hby d2_91) rfl ⟨by rw [← hv]; simp [hc16], N15, e14⟩ (by decide) (by decide)
theorem ef_rm2_1 (m : MethodId) (x0 : Addr) (x1 : Int32) : entryFrame m #[(.ref x0), (.int x1)] 2 = mkF m 0 #[.val (.ref x0), .val (.int x1)] [] := by first | (simp [entryFrame, mkF, argsToLocals, Value.category, maxLocals]; done) | rfl
def Q_rm2_1 (Z : State) (a : Addr) (cc b : Int32) (h0 : Heap) (n0 : Nat) (v : Option Value) (h : Heap) (L : List Loc) : Prop := v = some (.int b) ∧ Fr n0 L ∧ h = h0
set_option maxRecDepth 65536 in
set_option maxHeartbeats 40000000 in
theorem rm2_1 (l : Launch) (Z : State) (a0 : Array Value) (hw : ∀ d ∈ tables_1, d.before a0 Z = true) (ws : List Jvm.Cond) (a : Addr) (cc b : Int32) (h0 : Heap) (n0 : Nat) (Z0 : n0 ≤ h0.size) (E : Exa Z h0 a "com/example/markupkeel/markupkeel/schema/Facet$Bound$Kind") (F : Fld Z h0 a "java/lang/Enum" "ordinal" "I" (.int 1)) (hv : (if 0 < cc then 1 else 0 : Int32) = b) :
    MetFree l (⟨"com/example/markupkeel/markupkeel/schema/Facet$Bound$Kind", "holds", "(I)Z"⟩ : MethodName) (head1 (Jvm.Cond.code (⟨"com/example/markupkeel/markupkeel/schema/Facet$Bound$Kind", "holds", "(I)Z"⟩ : MethodName) prog_61_method_5_code 2 (some .boolean) :: ws) ({ frames := 1, cells := 0, slots := 0, locals := 12 } : Room)) (fun as_ U_ => as_ = #[(.ref a), (.int cc)] ∧ Z.Warmed39 U_.vm ∧ U_.heap = h0) (fun _ _ _ _ _ => True) (fun _ U_ o_ U2_ => ∃ v_ L_, o_ = .returned v_ ∧ (Q_rm2_1 Z a cc b h0 n0) v_ U2_.heap L_ ∧ FrameEnd U_ o_ U2_ L_ ({ frames := 1, cells := 0, slots := 0, locals := 12 } : Room).cells ({ frames := 1, cells := 0, slots := 0, locals := 12 } : Room).slots) := by
  refine MetFree.of_bodySF (plainFor_of_name (by first | (simp [plainName, overriddenIn]; done) | decide +kernel : plainName "com/example/markupkeel/markupkeel/schema/Facet$Bound$Kind" = true)) hisR ?_
  intro p e s m args below meth c s₁ Bd hml0 hP hK
  obtain ⟨rfl, hZ, hh⟩ := hP
  have hx := Bd.exec
  have hby := Bd.bytes
  have hlk := Bd.notSynchronized
  have hml : c.maxLocals = 2 := hml0
  have hown : s.vm.findClass "com/example/markupkeel/markupkeel/schema/Facet$Bound$Kind" = some m.cls := findClass_of_methodNamed Bd.named
  have hnm := (name_of_methodNamed Bd.named Bd.method).1
  have X0 : Stand p l e ({ frames := 1, cells := 0, slots := 0, locals := 12 } : Room) s m #[(.ref a), (.int cc)] below meth c s₁ [] 0 0 := Stand.of_body Bd
  have e0 : s₁.heap = h0 := by rw [← hh, Bd.state]; rfl
  have N0 := Fr.nil n0
  show own_Go p e below (own_R s below (Q_rm2_1 Z a cc b h0 n0) ({ frames := 1, cells := 0, slots := 0, locals := 12 } : Room).cells ({ frames := 1, cells := 0, slots := 0, locals := 12 } : Room).slots) (s₁.setTop (entryFrame m #[(.ref a), (.int cc)] 2))
  refine own_bk (S' := (s₁.setTop (mkF m 0 #[rv a, iv cc] []))) (fun t_ kont => castTop (ef_rm2_1 m (a) (cc)) kont) ?_
  refine own_bk (S' := (s₁.setTop (mkF m 1 #[rv a, iv cc] [(.ref a)]))) (fun t_ kont => XS.aloadN X0.here hx rfl (hb hby d2_0) rfl rfl kont) ?_
  obtain ⟨cqq12, kqq12, q12a, q12b, q12c⟩ := isOf hZ e0 E
  obtain ⟨_, _, ⟨T1, L2, k3, n4⟩, -, X5, ⟨Lc6, hQ7, l8, y9, z10⟩, st11⟩ := X0.virtualBackUp hx (x := (⟨"com/example/markupkeel/markupkeel/schema/Facet$Bound$Kind", "ordinal", "()I"⟩ : MethodName)) (y := (⟨"java/lang/Enum", "ordinal", "()I"⟩ : MethodName)) hown (mvT hZ (hw _ (List.mem_of_getElem? (i := 12) rfl))) (mvT hZ (hw _ (List.mem_of_getElem? (i := 13) rfl))) (mvT hZ (hw _ (List.mem_of_getElem? (i := 14) rfl))) (by decide) (mvT hZ (hw _ (List.mem_of_getElem? (i := 16) rfl))) (mvT hZ (hw _ (List.mem_of_getElem? (i := 15) rfl))) (backOf (W := 0) (rm3 l Z a0 hw [] a 1 h0 n0 Z0 F) hZ (hw _ (List.mem_of_getElem? (i := 18) rfl)) (hw _ (List.mem_of_getElem? (i := 17) rfl)) (by decide) (by decide)) q12a q12c (g := (mkF m 1 #[rv a, iv cc] [(.ref a)])) rfl (by rw [hml]; rfl) (Steps.refl _) (argsL := []) (rest := []) (lenOf (by decide +kernel : parseMethodDescriptor "()I" = some ⟨[], some .int⟩) rfl) rfl (by show 2 * 0 + _ ≤ _; exact Nat.le_of_eq rfl) (hb hby d2_1) (fun _ _ => ⟨rfl, e0, (by decide : 0 + 0 ≤ _), (by decide : 0 + 0 ≤ _)⟩)
  dsimp only [Pt.U, Pt.locs, Pt.cells, Pt.slots] at X5 l8 y9 z10 st11 hQ7
  subst l8 y9 z10
  obtain ⟨rfl, N13, e14⟩ := hQ7
  have N15 := Fr.app N0 N13
  refine own_tr (S' := (T1.setTop (mkF m 4 #[rv a, iv cc] [(.int (1 : Int32))]))) st11 ?_
  refine own_bk (S' := (T1.setTop (mkF m 58 #[rv a, iv cc] []))) (fun t_ kont => XS.tswIn X5.here hx rfl (pc0 := 4) (pc' := 58) rfl (hb hby d2_4) rfl (by decide) (o := 54) rfl (by decide) (by decide) kont) ?_
  refine own_bk (S' := (T1.setTop (mkF m 59 #[rv a, iv cc] [(.int cc)]))) (fun t_ kont => XS.iloadN X5.here hx rfl (hb hby d2_58) rfl kont) ?_
  by_cases hc16 : ((0 : Int32)) < (cc)
  · refine own_bk (S' := (T1.setTop (mkF m 62 #[rv a, iv cc] []))) (fun t_ kont => XS.ifNo X5.here hx rfl (hb hby d2_59) rfl ((if0 _ _).trans (tlt (hc16)).2.2.2) kont) ?_
    refine own_bk (S' := (T1.setTop (mkF m 63 #[rv a, iv cc] [(.int (1 : Int32))]))) (fun t_ kont => XS.iconst X5.here hx rfl (hb hby d2_62) kont) ?_
    refine own_bk (S' := (T1.setTop (mkF m 91 #[rv a, iv cc] [(.int (1 : Int32))]))) (fun t_ kont => XS.goto X5.here hx rfl (pc0 := 63) (pc' := 91) rfl (hb hby d2_63) (by decide) (by decide) kont) ?_
    exact own_retN X5 hx hlk (t := .boolean) (w := (1 : Int32)) Bd.returns (by simp) (hb hby d2_91) rfl ⟨by rw [← hv]; simp [hc16], N15, e14⟩ (by decide) (by decide)
  · refine own_bk (S' := (T1.setTop (mkF m 66 #[rv a, iv cc] []))) (fun t_ kont => XS.ifYes X5.here hx rfl (pc0 := 59) (pc' := 66) rfl (hb hby d2_59) rfl ((if0 _ _).trans (flt (hc16)).2.2.2) (by decide) (by decide) kont) ?_
    refine own_bk (S' := (T1.setTop (mkF m 67 #[rv a, iv cc] [(.int (0 : Int32))]))) (fun t_ kont => XS.iconst X5.here hx rfl (hb hby d2_66) kont) ?_
    refine own_bk (S' := (T1.setTop (mkF m 91 #[rv a, iv cc] [(.int (0 : Int32))]))) (fun t_ kont => XS.goto X5.here hx rfl (pc0 := 67) (pc' := 91) rfl (hb hby d2_67) (by decide) (by decide) kont) ?_
    exact own_retN X5 hx hlk (t := .boolean) (w := (0 : Int32)) Bd.returns (by simp) (hb hby d2_91) rfl ⟨by rw [← hv]; simp [hc16], N15, e14⟩ (by decide) (by decide)
theorem ef_rm2_2 (m : MethodId) (x0 : Addr) (x1 : Int32) : entryFrame m #[(.ref x0), (.int x1)] 2 = mkF m 0 #[.val (.ref x0), .val (.int x1)] [] := by first | (simp [entryFrame, mkF, argsToLocals, Value.category, maxLocals]; done) | rfl
def Q_rm2_2 (Z : State) (a : Addr) (cc b : Int32) (h0 : Heap) (n0 : Nat) (v : Option Value) (h : Heap) (L : List Loc) : Prop := v = some (.int b) ∧ Fr n0 L ∧ h = h0
set_option maxRecDepth 65536 in
set_option maxHeartbeats 40000000 in
theorem rm2_2 (l : Launch) (Z : State) (a0 : Array Value) (hw : ∀ d ∈ tables_1, d.before a0 Z = true) (ws : List Jvm.Cond) (a : Addr) (cc b : Int32) (h0 : Heap) (n0 : Nat) (Z0 : n0 ≤ h0.size) (E : Exa Z h0 a "com/example/markupkeel/markupkeel/schema/Facet$Bound$Kind") (F : Fld Z h0 a "java/lang/Enum" "ordinal" "I" (.int 2)) (hv : (if 0 < cc then 0 else 1 : Int32) = b) :
    MetFree l (⟨"com/example/markupkeel/markupkeel/schema/Facet$Bound$Kind", "holds", "(I)Z"⟩ : MethodName) (head1 (Jvm.Cond.code (⟨"com/example/markupkeel/markupkeel/schema/Facet$Bound$Kind", "holds", "(I)Z"⟩ : MethodName) prog_61_method_5_code 2 (some .boolean) :: ws) ({ frames := 1, cells := 0, slots := 0, locals := 12 } : Room)) (fun as_ U_ => as_ = #[(.ref a), (.int cc)] ∧ Z.Warmed39 U_.vm ∧ U_.heap = h0) (fun _ _ _ _ _ => True) (fun _ U_ o_ U2_ => ∃ v_ L_, o_ = .returned v_ ∧ (Q_rm2_2 Z a cc b h0 n0) v_ U2_.heap L_ ∧ FrameEnd U_ o_ U2_ L_ ({ frames := 1, cells := 0, slots := 0, locals := 12 } : Room).cells ({ frames := 1, cells := 0, slots := 0, locals := 12 } : Room).slots) := by
  refine MetFree.of_bodySF (plainFor_of_name (by first | (simp [plainName, overriddenIn]; done) | decide +kernel : plainName "com/example/markupkeel/markupkeel/schema/Facet$Bound$Kind" = true)) hisR ?_
  intro p e s m args below meth c s₁ Bd hml0 hP hK
  obtain ⟨rfl, hZ, hh⟩ := hP
  have hx := Bd.exec
  have hby := Bd.bytes
  have hlk := Bd.notSynchronized
  have hml : c.maxLocals = 2 := hml0
  have hown : s.vm.findClass "com/example/markupkeel/markupkeel/schema/Facet$Bound$Kind" = some m.cls := findClass_of_methodNamed Bd.named
  have hnm := (name_of_methodNamed Bd.named Bd.method).1
  have X0 : Stand p l e ({ frames := 1, cells := 0, slots := 0, locals := 12 } : Room) s m #[(.ref a), (.int cc)] below meth c s₁ [] 0 0 := Stand.of_body Bd
  have e0 : s₁.heap = h0 := by rw [← hh, Bd.state]; rfl
  have N0 := Fr.nil n0
  show own_Go p e below (own_R s below (Q_rm2_2 Z a cc b h0 n0) ({ frames := 1, cells := 0, slots := 0, locals := 12 } : Room).cells ({ frames := 1, cells := 0, slots := 0, locals := 12 } : Room).slots) (s₁.setTop (entryFrame m #[(.ref a), (.int cc)] 2))
  refine own_bk (S' := (s₁.setTop (mkF m 0 #[rv a, iv cc] []))) (fun t_ kont => castTop (ef_rm2_2 m (a) (cc)) kont) ?_
  refine own_bk (S' := (s₁.setTop (mkF m 1 #[rv a, iv cc] [(.ref a)]))) (fun t_ kont => XS.aloadN X0.here hx rfl (hb hby d2_0) rfl rfl kont) ?_
  obtain ⟨cqq12, kqq12, q12a, q12b, q12c⟩ := isOf hZ e0 E
  obtain ⟨_, _, ⟨T1, L2, k3, n4⟩, -, X5, ⟨Lc6, hQ7, l8, y9, z10⟩, st11⟩ := X0.virtualBackUp hx (x := (⟨"com/example/markupkeel/markupkeel/schema/Facet$Bound$Kind", "ordinal", "()I"⟩ : MethodName)) (y := (⟨"java/lang/Enum", "ordinal", "()I"⟩ : MethodName)) hown (mvT hZ (hw _ (List.mem_of_getElem? (i := 12) rfl))) (mvT hZ (hw _ (List.mem_of_getElem? (i := 13) rfl))) (mvT hZ (hw _ (List.mem_of_getElem? (i := 14) rfl))) (by decide) (mvT hZ (hw _ (List.mem_of_getElem? (i := 16) rfl))) (mvT hZ (hw _ (List.mem_of_getElem? (i := 15) rfl))) (backOf (W := 0) (rm3 l Z a0 hw [] a 2 h0 n0 Z0 F) hZ (hw _ (List.mem_of_getElem? (i := 18) rfl)) (hw _ (List.mem_of_getElem? (i := 17) rfl)) (by decide) (by decide)) q12a q12c (g := (mkF m 1 #[rv a, iv cc] [(.ref a)])) rfl (by rw [hml]; rfl) (Steps.refl _) (argsL := []) (rest := []) (lenOf (by decide +kernel : parseMethodDescriptor "()I" = some ⟨[], some .int⟩) rfl) rfl (by show 2 * 0 + _ ≤ _; exact Nat.le_of_eq rfl) (hb hby d2_1) (fun _ _ => ⟨rfl, e0, (by decide : 0 + 0 ≤ _), (by decide : 0 + 0 ≤ _)⟩)
  dsimp only [Pt.U, Pt.locs, Pt.cells, Pt.slots] at X5 l8 y9 z10 st11 hQ7
  subst l8 y9 z10
  obtain ⟨rfl, N13, e14⟩ := hQ7
  have N15 := Fr.app N0 N13
  refine own_tr (S' := (T1.setTop (mkF m 4 #[rv a, iv cc] [(.int (2 : Int32))]))) st11 ?_
  refine own_bk (S' := (T1.setTop (mkF m 70 #[rv a, iv cc] []))) (fun t_ kont => XS.tswIn X5.here hx rfl (pc0 := 4) (pc' := 70) rfl (hb hby d2_4) rfl (by decide) (o := 66) rfl (by decide) (by decide) kont) ?_
  refine own_bk (S' := (T1.setTop (mkF m 71 #[rv a, iv cc] [(.int cc)]))) (fun t_ kont => XS.iloadN X5.here hx rfl (hb hby d2_70) rfl kont) ?_
  by_cases hc16 : ((0 : Int32)) < (cc)
  · refine own_bk (S' := (T1.setTop (mkF m 78 #[rv a, iv cc] []))) (fun t_ kont => XS.ifYes X5.here hx rfl (pc0 := 71) (pc' := 78) rfl (hb hby d2_71) rfl ((if0 _ _).trans (tlt (hc16)).2.2.1) (by decide) (by decide) kont) ?_
    refine own_bk (S' := (T1.setTop (mkF m 79 #[rv a, iv cc] [(.int (0 : Int32))]))) (fun t_ kont => XS.iconst X5.here hx rfl (hb hby d2_78) kont) ?_
    refine own_bk (S' := (T1.setTop (mkF m 91 #[rv a, iv cc] [(.int (0 : Int32))]))) (fun t_ kont => XS.goto X5.here hx rfl (pc0 := 79) (pc' := 91) rfl (hb hby d2_79) (by decide) (by decide) kont) ?_
    exact own_retN X5 hx hlk (t := .boolean) (w := (0 : Int32)) Bd.returns (by simp) (hb hby d2_91) rfl ⟨by rw [← hv]; simp [hc16], N15, e14⟩ (by decide) (by decide)
  · refine own_bk (S' := (T1.setTop (mkF m 74 #[rv a, iv cc] []))) (fun t_ kont => XS.ifNo X5.here hx rfl (hb hby d2_71) rfl ((if0 _ _).trans (flt (hc16)).2.2.1) kont) ?_
    refine own_bk (S' := (T1.setTop (mkF m 75 #[rv a, iv cc] [(.int (1 : Int32))]))) (fun t_ kont => XS.iconst X5.here hx rfl (hb hby d2_74) kont) ?_
    refine own_bk (S' := (T1.setTop (mkF m 91 #[rv a, iv cc] [(.int (1 : Int32))]))) (fun t_ kont => XS.goto X5.here hx rfl (pc0 := 75) (pc' := 91) rfl (hb hby d2_75) (by decide) (by decide) kont) ?_
    exact own_retN X5 hx hlk (t := .boolean) (w := (1 : Int32)) Bd.returns (by simp) (hb hby d2_91) rfl ⟨by rw [← hv]; simp [hc16], N15, e14⟩ (by decide) (by decide)
theorem ef_rm2_3 (m : MethodId) (x0 : Addr) (x1 : Int32) : entryFrame m #[(.ref x0), (.int x1)] 2 = mkF m 0 #[.val (.ref x0), .val (.int x1)] [] := by first | (simp [entryFrame, mkF, argsToLocals, Value.category, maxLocals]; done) | rfl
def Q_rm2_3 (Z : State) (a : Addr) (cc b : Int32) (h0 : Heap) (n0 : Nat) (v : Option Value) (h : Heap) (L : List Loc) : Prop := v = some (.int b) ∧ Fr n0 L ∧ h = h0
set_option maxRecDepth 65536 in
set_option maxHeartbeats 40000000 in
theorem rm2_3 (l : Launch) (Z : State) (a0 : Array Value) (hw : ∀ d ∈ tables_1, d.before a0 Z = true) (ws : List Jvm.Cond) (a : Addr) (cc b : Int32) (h0 : Heap) (n0 : Nat) (Z0 : n0 ≤ h0.size) (E : Exa Z h0 a "com/example/markupkeel/markupkeel/schema/Facet$Bound$Kind") (F : Fld Z h0 a "java/lang/Enum" "ordinal" "I" (.int 3)) (hv : (if cc < 0 then 1 else 0 : Int32) = b) :
    MetFree l (⟨"com/example/markupkeel/markupkeel/schema/Facet$Bound$Kind", "holds", "(I)Z"⟩ : MethodName) (head1 (Jvm.Cond.code (⟨"com/example/markupkeel/markupkeel/schema/Facet$Bound$Kind", "holds", "(I)Z"⟩ : MethodName) prog_61_method_5_code 2 (some .boolean) :: ws) ({ frames := 1, cells := 0, slots := 0, locals := 12 } : Room)) (fun as_ U_ => as_ = #[(.ref a), (.int cc)] ∧ Z.Warmed39 U_.vm ∧ U_.heap = h0) (fun _ _ _ _ _ => True) (fun _ U_ o_ U2_ => ∃ v_ L_, o_ = .returned v_ ∧ (Q_rm2_3 Z a cc b h0 n0) v_ U2_.heap L_ ∧ FrameEnd U_ o_ U2_ L_ ({ frames := 1, cells := 0, slots := 0, locals := 12 } : Room).cells ({ frames := 1, cells := 0, slots := 0, locals := 12 } : Room).slots) := by
  refine MetFree.of_bodySF (plainFor_of_name (by first | (simp [plainName, overriddenIn]; done) | decide +kernel : plainName "com/example/markupkeel/markupkeel/schema/Facet$Bound$Kind" = true)) hisR ?_
  intro p e s m args below meth c s₁ Bd hml0 hP hK
  obtain ⟨rfl, hZ, hh⟩ := hP
  have hx := Bd.exec
  have hby := Bd.bytes
  have hlk := Bd.notSynchronized
  have hml : c.maxLocals = 2 := hml0
  have hown : s.vm.findClass "com/example/markupkeel/markupkeel/schema/Facet$Bound$Kind" = some m.cls := findClass_of_methodNamed Bd.named
  have hnm := (name_of_methodNamed Bd.named Bd.method).1
  have X0 : Stand p l e ({ frames := 1, cells := 0, slots := 0, locals := 12 } : Room) s m #[(.ref a), (.int cc)] below meth c s₁ [] 0 0 := Stand.of_body Bd
  have e0 : s₁.heap = h0 := by rw [← hh, Bd.state]; rfl
  have N0 := Fr.nil n0
  show own_Go p e below (own_R s below (Q_rm2_3 Z a cc b h0 n0) ({ frames := 1, cells := 0, slots := 0, locals := 12 } : Room).cells ({ frames := 1, cells := 0, slots := 0, locals := 12 } : Room).slots) (s₁.setTop (entryFrame m #[(.ref a), (.int cc)] 2))
  refine own_bk (S' := (s₁.setTop (mkF m 0 #[rv a, iv cc] []))) (fun t_ kont => castTop (ef_rm2_3 m (a) (cc)) kont) ?_
  refine own_bk (S' := (s₁.setTop (mkF m 1 #[rv a, iv cc] [(.ref a)]))) (fun t_ kont => XS.aloadN X0.here hx rfl (hb hby d2_0) rfl rfl kont) ?_
  obtain ⟨cqq12, kqq12, q12a, q12b, q12c⟩ := isOf hZ e0 E
  obtain ⟨_, _, ⟨T1, L2, k3, n4⟩, -, X5, ⟨Lc6, hQ7, l8, y9, z10⟩, st11⟩ := X0.virtualBackUp hx (x := (⟨"com/example/markupkeel/markupkeel/schema/Facet$Bound$Kind", "ordinal", "()I"⟩ : MethodName)) (y := (⟨"java/lang/Enum", "ordinal", "()I"⟩ : MethodName)) hown (mvT hZ (hw _ (List.mem_of_getElem? (i := 12) rfl))) (mvT hZ (hw _ (List.mem_of_getElem? (i := 13) rfl))) (mvT hZ (hw _ (List.mem_of_getElem? (i := 14) rfl))) (by decide) (mvT hZ (hw _ (List.mem_of_getElem? (i := 16) rfl))) (mvT hZ (hw _ (List.mem_of_getElem? (i := 15) rfl))) (backOf (W := 0) (rm3 l Z a0 hw [] a 3 h0 n0 Z0 F) hZ (hw _ (List.mem_of_getElem? (i := 18) rfl)) (hw _ (List.mem_of_getElem? (i := 17) rfl)) (by decide) (by decide)) q12a q12c (g := (mkF m 1 #[rv a, iv cc] [(.ref a)])) rfl (by rw [hml]; rfl) (Steps.refl _) (argsL := []) (rest := []) (lenOf (by decide +kernel : parseMethodDescriptor "()I" = some ⟨[], some .int⟩) rfl) rfl (by show 2 * 0 + _ ≤ _; exact Nat.le_of_eq rfl) (hb hby d2_1) (fun _ _ => ⟨rfl, e0, (by decide : 0 + 0 ≤ _), (by decide : 0 + 0 ≤ _)⟩)
  dsimp only [Pt.U, Pt.locs, Pt.cells, Pt.slots] at X5 l8 y9 z10 st11 hQ7
  subst l8 y9 z10
  obtain ⟨rfl, N13, e14⟩ := hQ7
  have N15 := Fr.app N0 N13
  refine own_tr (S' := (T1.setTop (mkF m 4 #[rv a, iv cc] [(.int (3 : Int32))]))) st11 ?_
  refine own_bk (S' := (T1.setTop (mkF m 82 #[rv a, iv cc] []))) (fun t_ kont => XS.tswIn X5.here hx rfl (pc0 := 4) (pc' := 82) rfl (hb hby d2_4) rfl (by decide) (o := 78) rfl (by decide) (by decide) kont) ?_
  refine own_bk (S' := (T1.setTop (mkF m 83 #[rv a, iv cc] [(.int cc)]))) (fun t_ kont => XS.iloadN X5.here hx rfl (hb hby d2_82) rfl kont) ?_
  by_cases hc16 : (cc) < ((0 : Int32))
  · refine own_bk (S' := (T1.setTop (mkF m 86 #[rv a, iv cc] []))) (fun t_ kont => XS.ifNo X5.here hx rfl (hb hby d2_83) rfl ((if0 _ _).trans (tlt (hc16)).2.1) kont) ?_
    refine own_bk (S' := (T1.setTop (mkF m 87 #[rv a, iv cc] [(.int (1 : Int32))]))) (fun t_ kont => XS.iconst X5.here hx rfl (hb hby d2_86) kont) ?_
    refine own_bk (S' := (T1.setTop (mkF m 91 #[rv a, iv cc] [(.int (1 : Int32))]))) (fun t_ kont => XS.goto X5.here hx rfl (pc0 := 87) (pc' := 91) rfl (hb hby d2_87) (by decide) (by decide) kont) ?_
    exact own_retN X5 hx hlk (t := .boolean) (w := (1 : Int32)) Bd.returns (by simp) (hb hby d2_91) rfl ⟨by rw [← hv]; simp [hc16], N15, e14⟩ (by decide) (by decide)
  · refine own_bk (S' := (T1.setTop (mkF m 90 #[rv a, iv cc] []))) (fun t_ kont => XS.ifYes X5.here hx rfl (pc0 := 83) (pc' := 90) rfl (hb hby d2_83) rfl ((if0 _ _).trans (flt (hc16)).2.1) (by decide) (by decide) kont) ?_
    refine own_bk (S' := (T1.setTop (mkF m 91 #[rv a, iv cc] [(.int (0 : Int32))]))) (fun t_ kont => XS.iconst X5.here hx rfl (hb hby d2_90) kont) ?_
    exact own_retN X5 hx hlk (t := .boolean) (w := (0 : Int32)) Bd.returns (by simp) (hb hby d2_91) rfl ⟨by rw [← hv]; simp [hc16], N15, e14⟩ (by decide) (by decide)
theorem d1_0 : decode method_2_code 0 = .ok (.iload_n 0, 1) := by decide +kernel
theorem d1_1 : decode method_2_code 1 = .ok (.ifCond .ge 5, 3) := by decide +kernel
theorem d1_4 : decode method_2_code 4 = .ok (.iconst (-1), 1) := by decide +kernel
theorem d1_5 : decode method_2_code 5 = .ok (.ireturn, 1) := by decide +kernel
theorem d1_6 : decode method_2_code 6 = .ok (.iload_n 0, 1) := by decide +kernel
theorem d1_7 : decode method_2_code 7 = .ok (.ifCond .ne 5, 3) := by decide +kernel
theorem d1_10 : decode method_2_code 10 = .ok (.iconst 0, 1) := by decide +kernel
theorem d1_11 : decode method_2_code 11 = .ok (.ireturn, 1) := by decide +kernel
theorem d1_12 : decode method_2_code 12 = .ok (.iconst 1, 1) := by decide +kernel
theorem d1_13 : decode method_2_code 13 = .ok (.ireturn, 1) := by decide +kernel
theorem ef_rm1 (m : MethodId) (x0 : Int32) : entryFrame m #[(.int x0)] 1 = mkF m 0 #[.val (.int x0)] [] := by first | (simp [entryFrame, mkF, argsToLocals, Value.category, maxLocals]; done) | rfl
def Q_rm1 (Z : State) (cc b : Int32) (h0 : Heap) (n0 : Nat) (v : Option Value) (h : Heap) (L : List Loc) : Prop := v = some (.int b) ∧ Fr n0 L ∧ h = h0
set_option maxRecDepth 65536 in
set_option maxHeartbeats 40000000 in
theorem rm1 (l : Launch) (Z : State) (a0 : Array Value) (hw : ∀ d ∈ tables_1, d.before a0 Z = true) (ws : List Jvm.Cond) (cc b : Int32) (h0 : Heap) (n0 : Nat) (Z0 : n0 ≤ h0.size) (hv : (if cc < 0 then -1 else if cc = 0 then 0 else 1 : Int32) = b) :
    MetFree l (⟨"com/example/markupkeel/markupkeel/schema/KindHoldsPinLaw", "sign", "(I)I"⟩ : MethodName) (head1 (Jvm.Cond.code (⟨"com/example/markupkeel/markupkeel/schema/KindHoldsPinLaw", "sign", "(I)I"⟩ : MethodName) method_2_code 1 (some .int) :: ws) ({ frames := 0, cells := 0, slots := 0, locals := 0 } : Room)) (fun as_ U_ => as_ = #[(.int cc)] ∧ Z.Warmed39 U_.vm ∧ U_.heap = h0) (fun _ _ _ _ _ => True) (fun _ U_ o_ U2_ => ∃ v_ L_, o_ = .returned v_ ∧ (Q_rm1 Z cc b h0 n0) v_ U2_.heap L_ ∧ FrameEnd U_ o_ U2_ L_ ({ frames := 0, cells := 0, slots := 0, locals := 0 } : Room).cells ({ frames := 0, cells := 0, slots := 0, locals := 0 } : Room).slots) := by
  refine MetFree.of_bodySF (plainFor_of_name (by first | (simp [plainName, overriddenIn]; done) | decide +kernel : plainName "com/example/markupkeel/markupkeel/schema/KindHoldsPinLaw" = true)) hisR ?_
  intro p e s m args below meth c s₁ Bd hml0 hP hK
  obtain ⟨rfl, hZ, hh⟩ := hP
  have hx := Bd.exec
  have hby := Bd.bytes
  have hlk := Bd.notSynchronized
  have hml : c.maxLocals = 1 := hml0
  have hown : s.vm.findClass "com/example/markupkeel/markupkeel/schema/KindHoldsPinLaw" = some m.cls := findClass_of_methodNamed Bd.named
  have hnm := (name_of_methodNamed Bd.named Bd.method).1
  have X0 : Stand p l e ({ frames := 0, cells := 0, slots := 0, locals := 0 } : Room) s m #[(.int cc)] below meth c s₁ [] 0 0 := Stand.of_body Bd
  have e0 : s₁.heap = h0 := by rw [← hh, Bd.state]; rfl
  have N0 := Fr.nil n0
  show own_Go p e below (own_R s below (Q_rm1 Z cc b h0 n0) ({ frames := 0, cells := 0, slots := 0, locals := 0 } : Room).cells ({ frames := 0, cells := 0, slots := 0, locals := 0 } : Room).slots) (s₁.setTop (entryFrame m #[(.int cc)] 1))
  refine own_bk (S' := (s₁.setTop (mkF m 0 #[iv cc] []))) (fun t_ kont => castTop (ef_rm1 m (cc)) kont) ?_
  refine own_bk (S' := (s₁.setTop (mkF m 1 #[iv cc] [(.int cc)]))) (fun t_ kont => XS.iloadN X0.here hx rfl (hb hby d1_0) rfl kont) ?_
  by_cases hc1 : (cc) < ((0 : Int32))
  · refine own_bk (S' := (s₁.setTop (mkF m 4 #[iv cc] []))) (fun t_ kont => XS.ifNo X0.here hx rfl (hb hby d1_1) rfl ((if0 _ _).trans (tlt (hc1)).2.1) kont) ?_
    refine own_bk (S' := (s₁.setTop (mkF m 5 #[iv cc] [(.int (-1 : Int32))]))) (fun t_ kont => XS.iconst X0.here hx rfl (hb hby d1_4) kont) ?_
    exact own_retI X0 hx hlk Bd.returns (hb hby d1_5) ⟨by rw [← hv]; simp [hc1], N0, e0⟩ (by decide) (by decide)
  · refine own_bk (S' := (s₁.setTop (mkF m 6 #[iv cc] []))) (fun t_ kont => XS.ifYes X0.here hx rfl (pc0 := 1) (pc' := 6) rfl (hb hby d1_1) rfl ((if0 _ _).trans (flt (hc1)).2.1) (by decide) (by decide) kont) ?_
    refine own_bk (S' := (s₁.setTop (mkF m 7 #[iv cc] [(.int cc)]))) (fun t_ kont => XS.iloadN X0.here hx rfl (hb hby d1_6) rfl kont) ?_
    by_cases hc2 : (cc) = ((0 : Int32))
    · refine own_bk (S' := (s₁.setTop (mkF m 10 #[iv cc] []))) (fun t_ kont => XS.ifNo X0.here hx rfl (hb hby d1_7) rfl ((if0 _ _).trans (teq (hc2)).2) kont) ?_
      refine own_bk (S' := (s₁.setTop (mkF m 11 #[iv cc] [(.int (0 : Int32))]))) (fun t_ kont => XS.iconst X0.here hx rfl (hb hby d1_10) kont) ?_
      exact own_retI X0 hx hlk Bd.returns (hb hby d1_11) ⟨by rw [← hv]; simp [hc1, hc2], N0, e0⟩ (by decide) (by decide)
    · refine own_bk (S' := (s₁.setTop (mkF m 12 #[iv cc] []))) (fun t_ kont => XS.ifYes X0.here hx rfl (pc0 := 7) (pc' := 12) rfl (hb hby d1_7) rfl ((if0 _ _).trans (feq (hc2)).2) (by decide) (by decide) kont) ?_
      refine own_bk (S' := (s₁.setTop (mkF m 13 #[iv cc] [(.int (1 : Int32))]))) (fun t_ kont => XS.iconst X0.here hx rfl (hb hby d1_12) kont) ?_
      exact own_retI X0 hx hlk Bd.returns (hb hby d1_13) ⟨by rw [← hv]; simp [hc1, hc2], N0, e0⟩ (by decide) (by decide)
theorem ef_rm0 (m : MethodId) (x0 : Int32) : entryFrame m #[(.int x0)] maxLocals = mkF m 0 #[.val (.int x0), .unset, .unset, .unset, .unset, .unset, .unset, .unset, .unset, .unset] [] := by first | (simp [entryFrame, mkF, argsToLocals, Value.category, maxLocals]; done) | rfl
def Q_rm0 (Z : State) (v0 : Int32) (r_MIN_INCLUSIVE r_MIN_EXCLUSIVE r_MAX_INCLUSIVE r_MAX_EXCLUSIVE : Addr) (h0 : Heap) (n0 : Nat) (v : Option Value) (h : Heap) (L : List Loc) : Prop := v = some (.int 1) ∧ Fr n0 L
set_option maxRecDepth 65536 in
set_option maxHeartbeats 40000000 in
theorem rm0 (l : Launch) (Z : State) (a0 : Array Value) (hw : ∀ d ∈ tables_1, d.before a0 Z = true) (ws : List Jvm.Cond) (v0 : Int32) (r_MIN_INCLUSIVE r_MIN_EXCLUSIVE r_MAX_INCLUSIVE r_MAX_EXCLUSIVE : Addr) (h0 : Heap) (n0 : Nat) (Z0 : n0 ≤ h0.size) (G_MIN_INCLUSIVE : own_E Z h0 r_MIN_INCLUSIVE "com/example/markupkeel/markupkeel/schema/Facet$Bound$Kind" "MIN_INCLUSIVE" "Lcom/example/markupkeel/markupkeel/schema/Facet$Bound$Kind;" 0) (G_MIN_EXCLUSIVE : own_E Z h0 r_MIN_EXCLUSIVE "com/example/markupkeel/markupkeel/schema/Facet$Bound$Kind" "MIN_EXCLUSIVE" "Lcom/example/markupkeel/markupkeel/schema/Facet$Bound$Kind;" 1) (G_MAX_INCLUSIVE : own_E Z h0 r_MAX_INCLUSIVE "com/example/markupkeel/markupkeel/schema/Facet$Bound$Kind" "MAX_INCLUSIVE" "Lcom/example/markupkeel/markupkeel/schema/Facet$Bound$Kind;" 2) (G_MAX_EXCLUSIVE : own_E Z h0 r_MAX_EXCLUSIVE "com/example/markupkeel/markupkeel/schema/Facet$Bound$Kind" "MAX_EXCLUSIVE" "Lcom/example/markupkeel/markupkeel/schema/Facet$Bound$Kind;" 3) :
    MetFree l x (head1 (Jvm.Cond.code x code maxLocals ret :: ws) room_1) (fun as_ U_ => as_ = #[(.int v0)] ∧ Z.Warmed39 U_.vm ∧ U_.heap = h0) (fun _ _ _ _ _ => True) (fun _ U_ o_ U2_ => ∃ v_ L_, o_ = .returned v_ ∧ (Q_rm0 Z v0 r_MIN_INCLUSIVE r_MIN_EXCLUSIVE r_MAX_INCLUSIVE r_MAX_EXCLUSIVE h0 n0) v_ U2_.heap L_ ∧ FrameEnd U_ o_ U2_ L_ room_1.cells room_1.slots) := by
  refine MetFree.of_bodySF (plainFor_of_name (by first | (simp [plainName, overriddenIn]; done) | decide +kernel : plainName "com/example/markupkeel/markupkeel/schema/KindHoldsPinLaw" = true)) hisR ?_
  intro p e s m args below meth c s₁ Bd hml0 hP hK
  obtain ⟨rfl, hZ, hh⟩ := hP
  have hx := Bd.exec
  have hby := Bd.bytes
  have hlk := Bd.notSynchronized
  have hml : c.maxLocals = 10 := hml0
  have hown : s.vm.findClass "com/example/markupkeel/markupkeel/schema/KindHoldsPinLaw" = some m.cls := findClass_of_methodNamed Bd.named
  have hnm := (name_of_methodNamed Bd.named Bd.method).1
  have X0 : Stand p l e room_1 s m #[(.int v0)] below meth c s₁ [] 0 0 := Stand.of_body Bd
  have e0 : s₁.heap = h0 := by rw [← hh, Bd.state]; rfl
  have N0 := Fr.nil n0
  show own_Go p e below (own_R s below (Q_rm0 Z v0 r_MIN_INCLUSIVE r_MIN_EXCLUSIVE r_MAX_INCLUSIVE r_MAX_EXCLUSIVE h0 n0) room_1.cells room_1.slots) (s₁.setTop (entryFrame m #[(.int v0)] maxLocals))
  refine own_bk (S' := (s₁.setTop (mkF m 0 #[iv v0, .unset, .unset, .unset, .unset, .unset, .unset, .unset, .unset, .unset] []))) (fun t_ kont => castTop (ef_rm0 m (v0)) kont) ?_
  by_cases hc1 : v0 < 0
  · refine own_bk (S' := (s₁.setTop (mkF m 1 #[iv v0, .unset, .unset, .unset, .unset, .unset, .unset, .unset, .unset, .unset] [(.int v0)]))) (fun t_ kont => XS.iloadN X0.here hx rfl (hb hby at_0) rfl kont) ?_
    obtain ⟨_, _, ⟨T2, L3, k4, n5⟩, -, X6, ⟨Lc7, hQ8, l9, y10, z11⟩, st12⟩ := Jvm.LawKit.callS X0 hx (y := (⟨"com/example/markupkeel/markupkeel/schema/KindHoldsPinLaw", "sign", "(I)I"⟩ : MethodName)) hown (mvT hZ (hw _ (List.mem_of_getElem? (i := 0) rfl))) (mvT hZ (hw _ (List.mem_of_getElem? (i := 1) rfl))) (mvT hZ (hw _ (List.mem_of_getElem? (i := 2) rfl))) (mvT hZ (hw _ (List.mem_of_getElem? (i := 3) rfl))) (by decide) (backOf (W := 0) (rm1 l Z a0 hw [] v0 (-1 : Int32) h0 n0 Z0 (by simp [hc1])) hZ (hw _ (List.mem_of_getElem? (i := 3) rfl)) (hw _ (List.mem_of_getElem? (i := 2) rfl)) (by decide) (by decide)) (g := (mkF m 1 #[iv v0, .unset, .unset, .unset, .unset, .unset, .unset, .unset, .unset, .unset] [(.int v0)])) rfl (by rw [hml]; rfl) (argsL := [(.int v0)]) (rest := []) (lenOf (by decide +kernel : parseMethodDescriptor "(I)I" = some ⟨[.int], some .int⟩) rfl) rfl (by show 2 * 0 + _ ≤ _; exact Nat.le_of_eq rfl) (hb hby at_1) (fun _ _ => ⟨rfl, e0, (by decide : 0 + 0 ≤ _), (by decide : 0 + 0 ≤ _)⟩)
    dsimp only [Pt.U, Pt.locs, Pt.cells, Pt.slots] at X6 l9 y10 z11 st12 hQ8
    subst l9 y10 z11
    obtain ⟨rfl, N13, e14⟩ := hQ8
    have N15 := Fr.app N0 N13
    refine own_bk (S' := (T2.setTop (mkF m 4 #[iv v0, .unset, .unset, .unset, .unset, .unset, .unset, .unset, .unset, .unset] [(.int (-1 : Int32))]))) st12 ?_
    refine own_bk (S' := (T2.setTop (mkF m 5 #[iv v0, iv (-1 : Int32), .unset, .unset, .unset, .unset, .unset, .unset, .unset, .unset] []))) (fun t_ kont => XS.istoreN X6.here hx rfl (hb hby at_4) rfl (l' := #[iv v0, iv (-1 : Int32), .unset, .unset, .unset, .unset, .unset, .unset, .unset, .unset]) rfl kont) ?_
    obtain ⟨T16, X17, e18, st19⟩ := getS2 X6 hx hZ hown (host := "") (Or.inl (hw _ (List.mem_of_getElem? (i := 4) rfl))) Via.refl e14 G_MIN_INCLUSIVE.1 (g := (mkF m 5 #[iv v0, iv (-1 : Int32), .unset, .unset, .unset, .unset, .unset, .unset, .unset, .unset] [])) rfl (hb hby at_5)
    refine own_bk (S' := (T16.setTop (mkF m 8 #[iv v0, iv (-1 : Int32), .unset, .unset, .unset, .unset, .unset, .unset, .unset, .unset] [(.ref r_MIN_INCLUSIVE)]))) st19 ?_
    refine own_bk (S' := (T16.setTop (mkF m 9 #[iv v0, iv (-1 : Int32), .unset, .unset, .unset, .unset, .unset, .unset, .unset, .unset] [(.int v0), (.ref r_MIN_INCLUSIVE)]))) (fun t_ kont => XS.iloadN X17.here hx rfl (hb hby at_8) rfl kont) ?_
    obtain ⟨cqq31, kqq31, q31a, q31b, q31c⟩ := isOf hZ e18 G_MIN_INCLUSIVE.2.1
    obtain ⟨_, _, ⟨T20, L21, k22, n23⟩, -, X24, ⟨Lc25, hQ26, l27, y28, z29⟩, st30⟩ := X17.virtualBack hx (y := (⟨"com/example/markupkeel/markupkeel/schema/Facet$Bound$Kind", "holds", "(I)Z"⟩ : MethodName)) (z := (⟨"com/example/markupkeel/markupkeel/schema/Facet$Bound$Kind", "holds", "(I)Z"⟩ : MethodName)) hown (mvT hZ (hw _ (List.mem_of_getElem? (i := 7) rfl))) (mvT hZ (hw _ (List.mem_of_getElem? (i := 8) rfl))) (notFace_of_selects (args := #[]) (mvT hZ (hw _ (List.mem_of_getElem? (i := 10) rfl)))) (mvT hZ (hw _ (List.mem_of_getElem? (i := 10) rfl))) (mvT hZ (hw _ (List.mem_of_getElem? (i := 9) rfl))) (by decide) (backOf (W := 0) (rm2_0 l Z a0 hw [] r_MIN_INCLUSIVE v0 (0 : Int32) h0 n0 Z0 G_MIN_INCLUSIVE.2.1 G_MIN_INCLUSIVE.2.2 (by simp [hc1, own_neg hc1])) hZ (hw _ (List.mem_of_getElem? (i := 11) rfl)) (hw _ (List.mem_of_getElem? (i := 5) rfl)) (by decide) (by decide)) q31a q31c (g := (mkF m 9 #[iv v0, iv (-1 : Int32), .unset, .unset, .unset, .unset, .unset, .unset, .unset, .unset] [(.int v0), (.ref r_MIN_INCLUSIVE)])) rfl (by rw [hml]; rfl) (Steps.refl _) (argsL := [(.int v0)]) (rest := []) (lenOf (by decide +kernel : parseMethodDescriptor "(I)Z" = some ⟨[.int], some .boolean⟩) rfl) rfl (by show 2 * 0 + _ ≤ _; exact Nat.le_of_eq rfl) (hb hby at_9) (fun _ _ => ⟨rfl, e18, (by decide : 0 + 0 ≤ _), (by decide : 0 + 0 ≤ _)⟩)
    dsimp only [Pt.U, Pt.locs, Pt.cells, Pt.slots] at X24 l27 y28 z29 st30 hQ26
    subst l27 y28 z29
    obtain ⟨rfl, N32, e33⟩ := hQ26
    have N34 := Fr.app N15 N32
    refine own_tr (S' := (T20.setTop (mkF m 12 #[iv v0, iv (-1 : Int32), .unset, .unset, .unset, .unset, .unset, .unset, .unset, .unset] [(.int (0 : Int32))]))) st30 ?_
    refine own_bk (S' := (T20.setTop (mkF m 13 #[iv v0, iv (-1 : Int32), iv (0 : Int32), .unset, .unset, .unset, .unset, .unset, .unset, .unset] []))) (fun t_ kont => XS.istoreN X24.here hx rfl (hb hby at_12) rfl (l' := #[iv v0, iv (-1 : Int32), iv (0 : Int32), .unset, .unset, .unset, .unset, .unset, .unset, .unset]) rfl kont) ?_
    obtain ⟨T35, X36, e37, st38⟩ := getS2 X24 hx hZ hown (host := "") (Or.inl (hw _ (List.mem_of_getElem? (i := 21) rfl))) Via.refl e33 G_MIN_EXCLUSIVE.1 (g := (mkF m 13 #[iv v0, iv (-1 : Int32), iv (0 : Int32), .unset, .unset, .unset, .unset, .unset, .unset, .unset] [])) rfl (hb hby at_13)
    refine own_bk (S' := (T35.setTop (mkF m 16 #[iv v0, iv (-1 : Int32), iv (0 : Int32), .unset, .unset, .unset, .unset, .unset, .unset, .unset] [(.ref r_MIN_EXCLUSIVE)]))) st38 ?_
    refine own_bk (S' := (T35.setTop (mkF m 17 #[iv v0, iv (-1 : Int32), iv (0 : Int32), .unset, .unset, .unset, .unset, .unset, .unset, .unset] [(.int v0), (.ref r_MIN_EXCLUSIVE)]))) (fun t_ kont => XS.iloadN X36.here hx rfl (hb hby at_16) rfl kont) ?_
    obtain ⟨cqq50, kqq50, q50a, q50b, q50c⟩ := isOf hZ e37 G_MIN_EXCLUSIVE.2.1
    obtain ⟨_, _, ⟨T39, L40, k41, n42⟩, -, X43, ⟨Lc44, hQ45, l46, y47, z48⟩, st49⟩ := X36.virtualBack hx (y := (⟨"com/example/markupkeel/markupkeel/schema/Facet$Bound$Kind", "holds", "(I)Z"⟩ : MethodName)) (z := (⟨"com/example/markupkeel/markupkeel/schema/Facet$Bound$Kind", "holds", "(I)Z"⟩ : MethodName)) hown (mvT hZ (hw _ (List.mem_of_getElem? (i := 7) rfl))) (mvT hZ (hw _ (List.mem_of_getElem? (i := 8) rfl))) (notFace_of_selects (args := #[]) (mvT hZ (hw _ (List.mem_of_getElem? (i := 10) rfl)))) (mvT hZ (hw _ (List.mem_of_getElem? (i := 10) rfl))) (mvT hZ (hw _ (List.mem_of_getElem? (i := 9) rfl))) (by decide) (backOf (W := 0) (rm2_1 l Z a0 hw [] r_MIN_EXCLUSIVE v0 (0 : Int32) h0 n0 Z0 G_MIN_EXCLUSIVE.2.1 G_MIN_EXCLUSIVE.2.2 (by simp [hc1, own_neg hc1])) hZ (hw _ (List.mem_of_getElem? (i := 11) rfl)) (hw _ (List.mem_of_getElem? (i := 5) rfl)) (by decide) (by decide)) q50a q50c (g := (mkF m 17 #[iv v0, iv (-1 : Int32), iv (0 : Int32), .unset, .unset, .unset, .unset, .unset, .unset, .unset] [(.int v0), (.ref r_MIN_EXCLUSIVE)])) rfl (by rw [hml]; rfl) (Steps.refl _) (argsL := [(.int v0)]) (rest := []) (lenOf (by decide +kernel : parseMethodDescriptor "(I)Z" = some ⟨[.int], some .boolean⟩) rfl) rfl (by show 2 * 0 + _ ≤ _; exact Nat.le_of_eq rfl) (hb hby at_17) (fun _ _ => ⟨rfl, e37, (by decide : 0 + 0 ≤ _), (by decide : 0 + 0 ≤ _)⟩)
    dsimp only [Pt.U, Pt.locs, Pt.cells, Pt.slots] at X43 l46 y47 z48 st49 hQ45
    subst l46 y47 z48
    obtain ⟨rfl, N51, e52⟩ := hQ45
    have N53 := Fr.app N34 N51
    refine own_tr (S' := (T39.setTop (mkF m 20 #[iv v0, iv (-1 : Int32), iv (0 : Int32), .unset, .unset, .unset, .unset, .unset, .unset, .unset] [(.int (0 : Int32))]))) st49 ?_
    refine own_bk (S' := (T39.setTop (mkF m 21 #[iv v0, iv (-1 : Int32), iv (0 : Int32), iv (0 : Int32), .unset, .unset, .unset, .unset, .unset, .unset] []))) (fun t_ kont => XS.istoreN X43.here hx rfl (hb hby at_20) rfl (l' := #[iv v0, iv (-1 : Int32), iv (0 : Int32), iv (0 : Int32), .unset, .unset, .unset, .unset, .unset, .unset]) rfl kont) ?_
    obtain ⟨T54, X55, e56, st57⟩ := getS2 X43 hx hZ hown (host := "") (Or.inl (hw _ (List.mem_of_getElem? (i := 23) rfl))) Via.refl e52 G_MAX_INCLUSIVE.1 (g := (mkF m 21 #[iv v0, iv (-1 : Int32), iv (0 : Int32), iv (0 : Int32), .unset, .unset, .unset, .unset, .unset, .unset] [])) rfl (hb hby at_21)
    refine own_bk (S' := (T54.setTop (mkF m 24 #[iv v0, iv (-1 : Int32), iv (0 : Int32), iv (0 : Int32), .unset, .unset, .unset, .unset, .unset, .unset] [(.ref r_MAX_INCLUSIVE)]))) st57 ?_
    refine own_bk (S' := (T54.setTop (mkF m 25 #[iv v0, iv (-1 : Int32), iv (0 : Int32), iv (0 : Int32), .unset, .unset, .unset, .unset, .unset, .unset] [(.int v0), (.ref r_MAX_INCLUSIVE)]))) (fun t_ kont => XS.iloadN X55.here hx rfl (hb hby at_24) rfl kont) ?_
    obtain ⟨cqq69, kqq69, q69a, q69b, q69c⟩ := isOf hZ e56 G_MAX_INCLUSIVE.2.1
    obtain ⟨_, _, ⟨T58, L59, k60, n61⟩, -, X62, ⟨Lc63, hQ64, l65, y66, z67⟩, st68⟩ := X55.virtualBack hx (y := (⟨"com/example/markupkeel/markupkeel/schema/Facet$Bound$Kind", "holds", "(I)Z"⟩ : MethodName)) (z := (⟨"com/example/markupkeel/markupkeel/schema/Facet$Bound$Kind", "holds", "(I)Z"⟩ : MethodName)) hown (mvT hZ (hw _ (List.mem_of_getElem? (i := 7) rfl))) (mvT hZ (hw _ (List.mem_of_getElem? (i := 8) rfl))) (notFace_of_selects (args := #[]) (mvT hZ (hw _ (List.mem_of_getElem? (i := 10) rfl)))) (mvT hZ (hw _ (List.mem_of_getElem? (i := 10) rfl))) (mvT hZ (hw _ (List.mem_of_getElem? (i := 9) rfl))) (by decide) (backOf (W := 0) (rm2_2 l Z a0 hw [] r_MAX_INCLUSIVE v0 (1 : Int32) h0 n0 Z0 G_MAX_INCLUSIVE.2.1 G_MAX_INCLUSIVE.2.2 (by simp [hc1, own_neg hc1])) hZ (hw _ (List.mem_of_getElem? (i := 11) rfl)) (hw _ (List.mem_of_getElem? (i := 5) rfl)) (by decide) (by decide)) q69a q69c (g := (mkF m 25 #[iv v0, iv (-1 : Int32), iv (0 : Int32), iv (0 : Int32), .unset, .unset, .unset, .unset, .unset, .unset] [(.int v0), (.ref r_MAX_INCLUSIVE)])) rfl (by rw [hml]; rfl) (Steps.refl _) (argsL := [(.int v0)]) (rest := []) (lenOf (by decide +kernel : parseMethodDescriptor "(I)Z" = some ⟨[.int], some .boolean⟩) rfl) rfl (by show 2 * 0 + _ ≤ _; exact Nat.le_of_eq rfl) (hb hby at_25) (fun _ _ => ⟨rfl, e56, (by decide : 0 + 0 ≤ _), (by decide : 0 + 0 ≤ _)⟩)
    dsimp only [Pt.U, Pt.locs, Pt.cells, Pt.slots] at X62 l65 y66 z67 st68 hQ64
    subst l65 y66 z67
    obtain ⟨rfl, N70, e71⟩ := hQ64
    have N72 := Fr.app N53 N70
    refine own_tr (S' := (T58.setTop (mkF m 28 #[iv v0, iv (-1 : Int32), iv (0 : Int32), iv (0 : Int32), .unset, .unset, .unset, .unset, .unset, .unset] [(.int (1 : Int32))]))) st68 ?_
    refine own_bk (S' := (T58.setTop (mkF m 30 #[iv v0, iv (-1 : Int32), iv (0 : Int32), iv (0 : Int32), iv (1 : Int32), .unset, .unset, .unset, .unset, .unset] []))) (fun t_ kont => XS.istore X62.here hx rfl (hb hby at_28) rfl (l' := #[iv v0, iv (-1 : Int32), iv (0 : Int32), iv (0 : Int32), iv (1 : Int32), .unset, .unset, .unset, .unset, .unset]) rfl kont) ?_
    obtain ⟨T73, X74, e75, st76⟩ := getS2 X62 hx hZ hown (host := "") (Or.inl (hw _ (List.mem_of_getElem? (i := 25) rfl))) Via.refl e71 G_MAX_EXCLUSIVE.1 (g := (mkF m 30 #[iv v0, iv (-1 : Int32), iv (0 : Int32), iv (0 : Int32), iv (1 : Int32), .unset, .unset, .unset, .unset, .unset] [])) rfl (hb hby at_30)
    refine own_bk (S' := (T73.setTop (mkF m 33 #[iv v0, iv (-1 : Int32), iv (0 : Int32), iv (0 : Int32), iv (1 : Int32), .unset, .unset, .unset, .unset, .unset] [(.ref r_MAX_EXCLUSIVE)]))) st76 ?_
    refine own_bk (S' := (T73.setTop (mkF m 34 #[iv v0, iv (-1 : Int32), iv (0 : Int32), iv (0 : Int32), iv (1 : Int32), .unset, .unset, .unset, .unset, .unset] [(.int v0), (.ref r_MAX_EXCLUSIVE)]))) (fun t_ kont => XS.iloadN X74.here hx rfl (hb hby at_33) rfl kont) ?_
    obtain ⟨cqq88, kqq88, q88a, q88b, q88c⟩ := isOf hZ e75 G_MAX_EXCLUSIVE.2.1
    obtain ⟨_, _, ⟨T77, L78, k79, n80⟩, -, X81, ⟨Lc82, hQ83, l84, y85, z86⟩, st87⟩ := X74.virtualBack hx (y := (⟨"com/example/markupkeel/markupkeel/schema/Facet$Bound$Kind", "holds", "(I)Z"⟩ : MethodName)) (z := (⟨"com/example/markupkeel/markupkeel/schema/Facet$Bound$Kind", "holds", "(I)Z"⟩ : MethodName)) hown (mvT hZ (hw _ (List.mem_of_getElem? (i := 7) rfl))) (mvT hZ (hw _ (List.mem_of_getElem? (i := 8) rfl))) (notFace_of_selects (args := #[]) (mvT hZ (hw _ (List.mem_of_getElem? (i := 10) rfl)))) (mvT hZ (hw _ (List.mem_of_getElem? (i := 10) rfl))) (mvT hZ (hw _ (List.mem_of_getElem? (i := 9) rfl))) (by decide) (backOf (W := 0) (rm2_3 l Z a0 hw [] r_MAX_EXCLUSIVE v0 (1 : Int32) h0 n0 Z0 G_MAX_EXCLUSIVE.2.1 G_MAX_EXCLUSIVE.2.2 (by simp [hc1, own_neg hc1])) hZ (hw _ (List.mem_of_getElem? (i := 11) rfl)) (hw _ (List.mem_of_getElem? (i := 5) rfl)) (by decide) (by decide)) q88a q88c (g := (mkF m 34 #[iv v0, iv (-1 : Int32), iv (0 : Int32), iv (0 : Int32), iv (1 : Int32), .unset, .unset, .unset, .unset, .unset] [(.int v0), (.ref r_MAX_EXCLUSIVE)])) rfl (by rw [hml]; rfl) (Steps.refl _) (argsL := [(.int v0)]) (rest := []) (lenOf (by decide +kernel : parseMethodDescriptor "(I)Z" = some ⟨[.int], some .boolean⟩) rfl) rfl (by show 2 * 0 + _ ≤ _; exact Nat.le_of_eq rfl) (hb hby at_34) (fun _ _ => ⟨rfl, e75, (by decide : 0 + 0 ≤ _), (by decide : 0 + 0 ≤ _)⟩)
    dsimp only [Pt.U, Pt.locs, Pt.cells, Pt.slots] at X81 l84 y85 z86 st87 hQ83
    subst l84 y85 z86
    obtain ⟨rfl, N89, e90⟩ := hQ83
    have N91 := Fr.app N72 N89
    refine own_tr (S' := (T77.setTop (mkF m 37 #[iv v0, iv (-1 : Int32), iv (0 : Int32), iv (0 : Int32), iv (1 : Int32), .unset, .unset, .unset, .unset, .unset] [(.int (1 : Int32))]))) st87 ?_
    refine own_bk (S' := (T77.setTop (mkF m 39 #[iv v0, iv (-1 : Int32), iv (0 : Int32), iv (0 : Int32), iv (1 : Int32), iv (1 : Int32), .unset, .unset, .unset, .unset] []))) (fun t_ kont => XS.istore X81.here hx rfl (hb hby at_37) rfl (l' := #[iv v0, iv (-1 : Int32), iv (0 : Int32), iv (0 : Int32), iv (1 : Int32), iv (1 : Int32), .unset, .unset, .unset, .unset]) rfl kont) ?_
    refine own_bk (S' := (T77.setTop (mkF m 40 #[iv v0, iv (-1 : Int32), iv (0 : Int32), iv (0 : Int32), iv (1 : Int32), iv (1 : Int32), .unset, .unset, .unset, .unset] [(.int (-1 : Int32))]))) (fun t_ kont => XS.iloadN X81.here hx rfl (hb hby at_39) rfl kont) ?_
    refine own_bk (S' := (T77.setTop (mkF m 41 #[iv v0, iv (-1 : Int32), iv (0 : Int32), iv (0 : Int32), iv (1 : Int32), iv (1 : Int32), .unset, .unset, .unset, .unset] [(.int (-1 : Int32)), (.int (-1 : Int32))]))) (fun t_ kont => XS.iconst X81.here hx rfl (hb hby at_40) kont) ?_
    refine own_bk (S' := (T77.setTop (mkF m 48 #[iv v0, iv (-1 : Int32), iv (0 : Int32), iv (0 : Int32), iv (1 : Int32), iv (1 : Int32), .unset, .unset, .unset, .unset] []))) (fun t_ kont => XS.icmpYes X81.here hx rfl (pc0 := 41) (pc' := 48) rfl (hb hby at_41) rfl (teq (by decide : ((-1 : Int32)) = ((-1 : Int32)))).1 (by decide) (by decide) kont) ?_
    refine own_bk (S' := (T77.setTop (mkF m 49 #[iv v0, iv (-1 : Int32), iv (0 : Int32), iv (0 : Int32), iv (1 : Int32), iv (1 : Int32), .unset, .unset, .unset, .unset] [(.int (0 : Int32))]))) (fun t_ kont => XS.iconst X81.here hx rfl (hb hby at_48) kont) ?_
    refine own_bk (S' := (T77.setTop (mkF m 51 #[iv v0, iv (-1 : Int32), iv (0 : Int32), iv (0 : Int32), iv (1 : Int32), iv (1 : Int32), iv (0 : Int32), .unset, .unset, .unset] []))) (fun t_ kont => XS.istore X81.here hx rfl (hb hby at_49) rfl (l' := #[iv v0, iv (-1 : Int32), iv (0 : Int32), iv (0 : Int32), iv (1 : Int32), iv (1 : Int32), iv (0 : Int32), .unset, .unset, .unset]) rfl kont) ?_
    refine own_bk (S' := (T77.setTop (mkF m 52 #[iv v0, iv (-1 : Int32), iv (0 : Int32), iv (0 : Int32), iv (1 : Int32), iv (1 : Int32), iv (0 : Int32), .unset, .unset, .unset] [(.int (-1 : Int32))]))) (fun t_ kont => XS.iloadN X81.here hx rfl (hb hby at_51) rfl kont) ?_
    refine own_bk (S' := (T77.setTop (mkF m 53 #[iv v0, iv (-1 : Int32), iv (0 : Int32), iv (0 : Int32), iv (1 : Int32), iv (1 : Int32), iv (0 : Int32), .unset, .unset, .unset] [(.int (1 : Int32)), (.int (-1 : Int32))]))) (fun t_ kont => XS.iconst X81.here hx rfl (hb hby at_52) kont) ?_
    refine own_bk (S' := (T77.setTop (mkF m 60 #[iv v0, iv (-1 : Int32), iv (0 : Int32), iv (0 : Int32), iv (1 : Int32), iv (1 : Int32), iv (0 : Int32), .unset, .unset, .unset] []))) (fun t_ kont => XS.icmpYes X81.here hx rfl (pc0 := 53) (pc' := 60) rfl (hb hby at_53) rfl (feq (by decide : ¬ ((-1 : Int32)) = ((1 : Int32)))).2 (by decide) (by decide) kont) ?_
    refine own_bk (S' := (T77.setTop (mkF m 61 #[iv v0, iv (-1 : Int32), iv (0 : Int32), iv (0 : Int32), iv (1 : Int32), iv (1 : Int32), iv (0 : Int32), .unset, .unset, .unset] [(.int (0 : Int32))]))) (fun t_ kont => XS.iconst X81.here hx rfl (hb hby at_60) kont) ?_
    refine own_bk (S' := (T77.setTop (mkF m 63 #[iv v0, iv (-1 : Int32), iv (0 : Int32), iv (0 : Int32), iv (1 : Int32), iv (1 : Int32), iv (0 : Int32), iv (0 : Int32), .unset, .unset] []))) (fun t_ kont => XS.istore X81.here hx rfl (hb hby at_61) rfl (l' := #[iv v0, iv (-1 : Int32), iv (0 : Int32), iv (0 : Int32), iv (1 : Int32), iv (1 : Int32), iv (0 : Int32), iv (0 : Int32), .unset, .unset]) rfl kont) ?_
    refine own_bk (S' := (T77.setTop (mkF m 64 #[iv v0, iv (-1 : Int32), iv (0 : Int32), iv (0 : Int32), iv (1 : Int32), iv (1 : Int32), iv (0 : Int32), iv (0 : Int32), .unset, .unset] [(.int (-1 : Int32))]))) (fun t_ kont => XS.iloadN X81.here hx rfl (hb hby at_63) rfl kont) ?_
    refine own_bk (S' := (T77.setTop (mkF m 65 #[iv v0, iv (-1 : Int32), iv (0 : Int32), iv (0 : Int32), iv (1 : Int32), iv (1 : Int32), iv (0 : Int32), iv (0 : Int32), .unset, .unset] [(.int (1 : Int32)), (.int (-1 : Int32))]))) (fun t_ kont => XS.iconst X81.here hx rfl (hb hby at_64) kont) ?_
    refine own_bk (S' := (T77.setTop (mkF m 68 #[iv v0, iv (-1 : Int32), iv (0 : Int32), iv (0 : Int32), iv (1 : Int32), iv (1 : Int32), iv (0 : Int32), iv (0 : Int32), .unset, .unset] []))) (fun t_ kont => XS.icmpNo X81.here hx rfl (hb hby at_65) rfl (feq (by decide : ¬ ((-1 : Int32)) = ((1 : Int32)))).1 kont) ?_
    refine own_bk (S' := (T77.setTop (mkF m 69 #[iv v0, iv (-1 : Int32), iv (0 : Int32), iv (0 : Int32), iv (1 : Int32), iv (1 : Int32), iv (0 : Int32), iv (0 : Int32), .unset, .unset] [(.int (1 : Int32))]))) (fun t_ kont => XS.iconst X81.here hx rfl (hb hby at_68) kont) ?_
    refine own_bk (S' := (T77.setTop (mkF m 73 #[iv v0, iv (-1 : Int32), iv (0 : Int32), iv (0 : Int32), iv (1 : Int32), iv (1 : Int32), iv (0 : Int32), iv (0 : Int32), .unset, .unset] [(.int (1 : Int32))]))) (fun t_ kont => XS.goto X81.here hx rfl (pc0 := 69) (pc' := 73) rfl (hb hby at_69) (by decide) (by decide) kont) ?_
    refine own_bk (S' := (T77.setTop (mkF m 75 #[iv v0, iv (-1 : Int32), iv (0 : Int32), iv (0 : Int32), iv (1 : Int32), iv (1 : Int32), iv (0 : Int32), iv (0 : Int32), iv (1 : Int32), .unset] []))) (fun t_ kont => XS.istore X81.here hx rfl (hb hby at_73) rfl (l' := #[iv v0, iv (-1 : Int32), iv (0 : Int32), iv (0 : Int32), iv (1 : Int32), iv (1 : Int32), iv (0 : Int32), iv (0 : Int32), iv (1 : Int32), .unset]) rfl kont) ?_
    refine own_bk (S' := (T77.setTop (mkF m 76 #[iv v0, iv (-1 : Int32), iv (0 : Int32), iv (0 : Int32), iv (1 : Int32), iv (1 : Int32), iv (0 : Int32), iv (0 : Int32), iv (1 : Int32), .unset] [(.int (-1 : Int32))]))) (fun t_ kont => XS.iloadN X81.here hx rfl (hb hby at_75) rfl kont) ?_
    refine own_bk (S' := (T77.setTop (mkF m 77 #[iv v0, iv (-1 : Int32), iv (0 : Int32), iv (0 : Int32), iv (1 : Int32), iv (1 : Int32), iv (0 : Int32), iv (0 : Int32), iv (1 : Int32), .unset] [(.int (-1 : Int32)), (.int (-1 : Int32))]))) (fun t_ kont => XS.iconst X81.here hx rfl (hb hby at_76) kont) ?_
    refine own_bk (S' := (T77.setTop (mkF m 80 #[iv v0, iv (-1 : Int32), iv (0 : Int32), iv (0 : Int32), iv (1 : Int32), iv (1 : Int32), iv (0 : Int32), iv (0 : Int32), iv (1 : Int32), .unset] []))) (fun t_ kont => XS.icmpNo X81.here hx rfl (hb hby at_77) rfl (teq (by decide : ((-1 : Int32)) = ((-1 : Int32)))).2 kont) ?_
    refine own_bk (S' := (T77.setTop (mkF m 81 #[iv v0, iv (-1 : Int32), iv (0 : Int32), iv (0 : Int32), iv (1 : Int32), iv (1 : Int32), iv (0 : Int32), iv (0 : Int32), iv (1 : Int32), .unset] [(.int (1 : Int32))]))) (fun t_ kont => XS.iconst X81.here hx rfl (hb hby at_80) kont) ?_
    refine own_bk (S' := (T77.setTop (mkF m 85 #[iv v0, iv (-1 : Int32), iv (0 : Int32), iv (0 : Int32), iv (1 : Int32), iv (1 : Int32), iv (0 : Int32), iv (0 : Int32), iv (1 : Int32), .unset] [(.int (1 : Int32))]))) (fun t_ kont => XS.goto X81.here hx rfl (pc0 := 81) (pc' := 85) rfl (hb hby at_81) (by decide) (by decide) kont) ?_
    refine own_bk (S' := (T77.setTop (mkF m 87 #[iv v0, iv (-1 : Int32), iv (0 : Int32), iv (0 : Int32), iv (1 : Int32), iv (1 : Int32), iv (0 : Int32), iv (0 : Int32), iv (1 : Int32), iv (1 : Int32)] []))) (fun t_ kont => XS.istore X81.here hx rfl (hb hby at_85) rfl (l' := #[iv v0, iv (-1 : Int32), iv (0 : Int32), iv (0 : Int32), iv (1 : Int32), iv (1 : Int32), iv (0 : Int32), iv (0 : Int32), iv (1 : Int32), iv (1 : Int32)]) rfl kont) ?_
    refine own_bk (S' := (T77.setTop (mkF m 88 #[iv v0, iv (-1 : Int32), iv (0 : Int32), iv (0 : Int32), iv (1 : Int32), iv (1 : Int32), iv (0 : Int32), iv (0 : Int32), iv (1 : Int32), iv (1 : Int32)] [(.int (0 : Int32))]))) (fun t_ kont => XS.iloadN X81.here hx rfl (hb hby at_87) rfl kont) ?_
    refine own_bk (S' := (T77.setTop (mkF m 90 #[iv v0, iv (-1 : Int32), iv (0 : Int32), iv (0 : Int32), iv (1 : Int32), iv (1 : Int32), iv (0 : Int32), iv (0 : Int32), iv (1 : Int32), iv (1 : Int32)] [(.int (0 : Int32)), (.int (0 : Int32))]))) (fun t_ kont => XS.iload X81.here hx rfl (hb hby at_88) rfl kont) ?_
    refine own_bk (S' := (T77.setTop (mkF m 93 #[iv v0, iv (-1 : Int32), iv (0 : Int32), iv (0 : Int32), iv (1 : Int32), iv (1 : Int32), iv (0 : Int32), iv (0 : Int32), iv (1 : Int32), iv (1 : Int32)] []))) (fun t_ kont => XS.icmpNo X81.here hx rfl (hb hby at_90) rfl (teq (by decide : ((0 : Int32)) = ((0 : Int32)))).2 kont) ?_
    refine own_bk (S' := (T77.setTop (mkF m 94 #[iv v0, iv (-1 : Int32), iv (0 : Int32), iv (0 : Int32), iv (1 : Int32), iv (1 : Int32), iv (0 : Int32), iv (0 : Int32), iv (1 : Int32), iv (1 : Int32)] [(.int (0 : Int32))]))) (fun t_ kont => XS.iloadN X81.here hx rfl (hb hby at_93) rfl kont) ?_
    refine own_bk (S' := (T77.setTop (mkF m 96 #[iv v0, iv (-1 : Int32), iv (0 : Int32), iv (0 : Int32), iv (1 : Int32), iv (1 : Int32), iv (0 : Int32), iv (0 : Int32), iv (1 : Int32), iv (1 : Int32)] [(.int (0 : Int32)), (.int (0 : Int32))]))) (fun t_ kont => XS.iload X81.here hx rfl (hb hby at_94) rfl kont) ?_
    refine own_bk (S' := (T77.setTop (mkF m 99 #[iv v0, iv (-1 : Int32), iv (0 : Int32), iv (0 : Int32), iv (1 : Int32), iv (1 : Int32), iv (0 : Int32), iv (0 : Int32), iv (1 : Int32), iv (1 : Int32)] []))) (fun t_ kont => XS.icmpNo X81.here hx rfl (hb hby at_96) rfl (teq (by decide : ((0 : Int32)) = ((0 : Int32)))).2 kont) ?_
    refine own_bk (S' := (T77.setTop (mkF m 101 #[iv v0, iv (-1 : Int32), iv (0 : Int32), iv (0 : Int32), iv (1 : Int32), iv (1 : Int32), iv (0 : Int32), iv (0 : Int32), iv (1 : Int32), iv (1 : Int32)] [(.int (1 : Int32))]))) (fun t_ kont => XS.iload X81.here hx rfl (hb hby at_99) rfl kont) ?_
    refine own_bk (S' := (T77.setTop (mkF m 103 #[iv v0, iv (-1 : Int32), iv (0 : Int32), iv (0 : Int32), iv (1 : Int32), iv (1 : Int32), iv (0 : Int32), iv (0 : Int32), iv (1 : Int32), iv (1 : Int32)] [(.int (1 : Int32)), (.int (1 : Int32))]))) (fun t_ kont => XS.iload X81.here hx rfl (hb hby at_101) rfl kont) ?_
    refine own_bk (S' := (T77.setTop (mkF m 106 #[iv v0, iv (-1 : Int32), iv (0 : Int32), iv (0 : Int32), iv (1 : Int32), iv (1 : Int32), iv (0 : Int32), iv (0 : Int32), iv (1 : Int32), iv (1 : Int32)] []))) (fun t_ kont => XS.icmpNo X81.here hx rfl (hb hby at_103) rfl (teq (by decide : ((1 : Int32)) = ((1 : Int32)))).2 kont) ?_
    refine own_bk (S' := (T77.setTop (mkF m 108 #[iv v0, iv (-1 : Int32), iv (0 : Int32), iv (0 : Int32), iv (1 : Int32), iv (1 : Int32), iv (0 : Int32), iv (0 : Int32), iv (1 : Int32), iv (1 : Int32)] [(.int (1 : Int32))]))) (fun t_ kont => XS.iload X81.here hx rfl (hb hby at_106) rfl kont) ?_
    refine own_bk (S' := (T77.setTop (mkF m 110 #[iv v0, iv (-1 : Int32), iv (0 : Int32), iv (0 : Int32), iv (1 : Int32), iv (1 : Int32), iv (0 : Int32), iv (0 : Int32), iv (1 : Int32), iv (1 : Int32)] [(.int (1 : Int32)), (.int (1 : Int32))]))) (fun t_ kont => XS.iload X81.here hx rfl (hb hby at_108) rfl kont) ?_
    refine own_bk (S' := (T77.setTop (mkF m 113 #[iv v0, iv (-1 : Int32), iv (0 : Int32), iv (0 : Int32), iv (1 : Int32), iv (1 : Int32), iv (0 : Int32), iv (0 : Int32), iv (1 : Int32), iv (1 : Int32)] []))) (fun t_ kont => XS.icmpNo X81.here hx rfl (hb hby at_110) rfl (teq (by decide : ((1 : Int32)) = ((1 : Int32)))).2 kont) ?_
    refine own_bk (S' := (T77.setTop (mkF m 114 #[iv v0, iv (-1 : Int32), iv (0 : Int32), iv (0 : Int32), iv (1 : Int32), iv (1 : Int32), iv (0 : Int32), iv (0 : Int32), iv (1 : Int32), iv (1 : Int32)] [(.int (1 : Int32))]))) (fun t_ kont => XS.iconst X81.here hx rfl (hb hby at_113) kont) ?_
    refine own_bk (S' := (T77.setTop (mkF m 118 #[iv v0, iv (-1 : Int32), iv (0 : Int32), iv (0 : Int32), iv (1 : Int32), iv (1 : Int32), iv (0 : Int32), iv (0 : Int32), iv (1 : Int32), iv (1 : Int32)] [(.int (1 : Int32))]))) (fun t_ kont => XS.goto X81.here hx rfl (pc0 := 114) (pc' := 118) rfl (hb hby at_114) (by decide) (by decide) kont) ?_
    exact own_retN X81 hx hlk (t := .boolean) (w := (1 : Int32)) Bd.returns (by simp) (hb hby at_118) rfl ⟨rfl, N91⟩ (by decide) (by decide)
  · by_cases hc92 : v0 = 0
    · refine own_bk (S' := (s₁.setTop (mkF m 1 #[iv v0, .unset, .unset, .unset, .unset, .unset, .unset, .unset, .unset, .unset] [(.int v0)]))) (fun t_ kont => XS.iloadN X0.here hx rfl (hb hby at_0) rfl kont) ?_
      obtain ⟨_, _, ⟨T93, L94, k95, n96⟩, -, X97, ⟨Lc98, hQ99, l100, y101, z102⟩, st103⟩ := Jvm.LawKit.callS X0 hx (y := (⟨"com/example/markupkeel/markupkeel/schema/KindHoldsPinLaw", "sign", "(I)I"⟩ : MethodName)) hown (mvT hZ (hw _ (List.mem_of_getElem? (i := 0) rfl))) (mvT hZ (hw _ (List.mem_of_getElem? (i := 1) rfl))) (mvT hZ (hw _ (List.mem_of_getElem? (i := 2) rfl))) (mvT hZ (hw _ (List.mem_of_getElem? (i := 3) rfl))) (by decide) (backOf (W := 0) (rm1 l Z a0 hw [] v0 (0 : Int32) h0 n0 Z0 (by simp [hc92])) hZ (hw _ (List.mem_of_getElem? (i := 3) rfl)) (hw _ (List.mem_of_getElem? (i := 2) rfl)) (by decide) (by decide)) (g := (mkF m 1 #[iv v0, .unset, .unset, .unset, .unset, .unset, .unset, .unset, .unset, .unset] [(.int v0)])) rfl (by rw [hml]; rfl) (argsL := [(.int v0)]) (rest := []) (lenOf (by decide +kernel : parseMethodDescriptor "(I)I" = some ⟨[.int], some .int⟩) rfl) rfl (by show 2 * 0 + _ ≤ _; exact Nat.le_of_eq rfl) (hb hby at_1) (fun _ _ => ⟨rfl, e0, (by decide : 0 + 0 ≤ _), (by decide : 0 + 0 ≤ _)⟩)
      dsimp only [Pt.U, Pt.locs, Pt.cells, Pt.slots] at X97 l100 y101 z102 st103 hQ99
      subst l100 y101 z102
      obtain ⟨rfl, N104, e105⟩ := hQ99
      have N106 := Fr.app N0 N104
      refine own_bk (S' := (T93.setTop (mkF m 4 #[iv v0, .unset, .unset, .unset, .unset, .unset, .unset, .unset, .unset, .unset] [(.int (0 : Int32))]))) st103 ?_
      refine own_bk (S' := (T93.setTop (mkF m 5 #[iv v0, iv (0 : Int32), .unset, .unset, .unset, .unset, .unset, .unset, .unset, .unset] []))) (fun t_ kont => XS.istoreN X97.here hx rfl (hb hby at_4) rfl (l' := #[iv v0, iv (0 : Int32), .unset, .unset, .unset, .unset, .unset, .unset, .unset, .unset]) rfl kont) ?_
      obtain ⟨T107, X108, e109, st110⟩ := getS2 X97 hx hZ hown (host := "") (Or.inl (hw _ (List.mem_of_getElem? (i := 4) rfl))) Via.refl e105 G_MIN_INCLUSIVE.1 (g := (mkF m 5 #[iv v0, iv (0 : Int32), .unset, .unset, .unset, .unset, .unset, .unset, .unset, .unset] [])) rfl (hb hby at_5)
      refine own_bk (S' := (T107.setTop (mkF m 8 #[iv v0, iv (0 : Int32), .unset, .unset, .unset, .unset, .unset, .unset, .unset, .unset] [(.ref r_MIN_INCLUSIVE)]))) st110 ?_
      refine own_bk (S' := (T107.setTop (mkF m 9 #[iv v0, iv (0 : Int32), .unset, .unset, .unset, .unset, .unset, .unset, .unset, .unset] [(.int v0), (.ref r_MIN_INCLUSIVE)]))) (fun t_ kont => XS.iloadN X108.here hx rfl (hb hby at_8) rfl kont) ?_
      obtain ⟨cqq122, kqq122, q122a, q122b, q122c⟩ := isOf hZ e109 G_MIN_INCLUSIVE.2.1
      obtain ⟨_, _, ⟨T111, L112, k113, n114⟩, -, X115, ⟨Lc116, hQ117, l118, y119, z120⟩, st121⟩ := X108.virtualBack hx (y := (⟨"com/example/markupkeel/markupkeel/schema/Facet$Bound$Kind", "holds", "(I)Z"⟩ : MethodName)) (z := (⟨"com/example/markupkeel/markupkeel/schema/Facet$Bound$Kind", "holds", "(I)Z"⟩ : MethodName)) hown (mvT hZ (hw _ (List.mem_of_getElem? (i := 7) rfl))) (mvT hZ (hw _ (List.mem_of_getElem? (i := 8) rfl))) (notFace_of_selects (args := #[]) (mvT hZ (hw _ (List.mem_of_getElem? (i := 10) rfl)))) (mvT hZ (hw _ (List.mem_of_getElem? (i := 10) rfl))) (mvT hZ (hw _ (List.mem_of_getElem? (i := 9) rfl))) (by decide) (backOf (W := 0) (rm2_0 l Z a0 hw [] r_MIN_INCLUSIVE v0 (1 : Int32) h0 n0 Z0 G_MIN_INCLUSIVE.2.1 G_MIN_INCLUSIVE.2.2 (by simp [hc92])) hZ (hw _ (List.mem_of_getElem? (i := 11) rfl)) (hw _ (List.mem_of_getElem? (i := 5) rfl)) (by decide) (by decide)) q122a q122c (g := (mkF m 9 #[iv v0, iv (0 : Int32), .unset, .unset, .unset, .unset, .unset, .unset, .unset, .unset] [(.int v0), (.ref r_MIN_INCLUSIVE)])) rfl (by rw [hml]; rfl) (Steps.refl _) (argsL := [(.int v0)]) (rest := []) (lenOf (by decide +kernel : parseMethodDescriptor "(I)Z" = some ⟨[.int], some .boolean⟩) rfl) rfl (by show 2 * 0 + _ ≤ _; exact Nat.le_of_eq rfl) (hb hby at_9) (fun _ _ => ⟨rfl, e109, (by decide : 0 + 0 ≤ _), (by decide : 0 + 0 ≤ _)⟩)
      dsimp only [Pt.U, Pt.locs, Pt.cells, Pt.slots] at X115 l118 y119 z120 st121 hQ117
      subst l118 y119 z120
      obtain ⟨rfl, N123, e124⟩ := hQ117
      have N125 := Fr.app N106 N123
      refine own_tr (S' := (T111.setTop (mkF m 12 #[iv v0, iv (0 : Int32), .unset, .unset, .unset, .unset, .unset, .unset, .unset, .unset] [(.int (1 : Int32))]))) st121 ?_
      refine own_bk (S' := (T111.setTop (mkF m 13 #[iv v0, iv (0 : Int32), iv (1 : Int32), .unset, .unset, .unset, .unset, .unset, .unset, .unset] []))) (fun t_ kont => XS.istoreN X115.here hx rfl (hb hby at_12) rfl (l' := #[iv v0, iv (0 : Int32), iv (1 : Int32), .unset, .unset, .unset, .unset, .unset, .unset, .unset]) rfl kont) ?_
      obtain ⟨T126, X127, e128, st129⟩ := getS2 X115 hx hZ hown (host := "") (Or.inl (hw _ (List.mem_of_getElem? (i := 21) rfl))) Via.refl e124 G_MIN_EXCLUSIVE.1 (g := (mkF m 13 #[iv v0, iv (0 : Int32), iv (1 : Int32), .unset, .unset, .unset, .unset, .unset, .unset, .unset] [])) rfl (hb hby at_13)
      refine own_bk (S' := (T126.setTop (mkF m 16 #[iv v0, iv (0 : Int32), iv (1 : Int32), .unset, .unset, .unset, .unset, .unset, .unset, .unset] [(.ref r_MIN_EXCLUSIVE)]))) st129 ?_
      refine own_bk (S' := (T126.setTop (mkF m 17 #[iv v0, iv (0 : Int32), iv (1 : Int32), .unset, .unset, .unset, .unset, .unset, .unset, .unset] [(.int v0), (.ref r_MIN_EXCLUSIVE)]))) (fun t_ kont => XS.iloadN X127.here hx rfl (hb hby at_16) rfl kont) ?_
      obtain ⟨cqq141, kqq141, q141a, q141b, q141c⟩ := isOf hZ e128 G_MIN_EXCLUSIVE.2.1
      obtain ⟨_, _, ⟨T130, L131, k132, n133⟩, -, X134, ⟨Lc135, hQ136, l137, y138, z139⟩, st140⟩ := X127.virtualBack hx (y := (⟨"com/example/markupkeel/markupkeel/schema/Facet$Bound$Kind", "holds", "(I)Z"⟩ : MethodName)) (z := (⟨"com/example/markupkeel/markupkeel/schema/Facet$Bound$Kind", "holds", "(I)Z"⟩ : MethodName)) hown (mvT hZ (hw _ (List.mem_of_getElem? (i := 7) rfl))) (mvT hZ (hw _ (List.mem_of_getElem? (i := 8) rfl))) (notFace_of_selects (args := #[]) (mvT hZ (hw _ (List.mem_of_getElem? (i := 10) rfl)))) (mvT hZ (hw _ (List.mem_of_getElem? (i := 10) rfl))) (mvT hZ (hw _ (List.mem_of_getElem? (i := 9) rfl))) (by decide) (backOf (W := 0) (rm2_1 l Z a0 hw [] r_MIN_EXCLUSIVE v0 (0 : Int32) h0 n0 Z0 G_MIN_EXCLUSIVE.2.1 G_MIN_EXCLUSIVE.2.2 (by simp [hc92])) hZ (hw _ (List.mem_of_getElem? (i := 11) rfl)) (hw _ (List.mem_of_getElem? (i := 5) rfl)) (by decide) (by decide)) q141a q141c (g := (mkF m 17 #[iv v0, iv (0 : Int32), iv (1 : Int32), .unset, .unset, .unset, .unset, .unset, .unset, .unset] [(.int v0), (.ref r_MIN_EXCLUSIVE)])) rfl (by rw [hml]; rfl) (Steps.refl _) (argsL := [(.int v0)]) (rest := []) (lenOf (by decide +kernel : parseMethodDescriptor "(I)Z" = some ⟨[.int], some .boolean⟩) rfl) rfl (by show 2 * 0 + _ ≤ _; exact Nat.le_of_eq rfl) (hb hby at_17) (fun _ _ => ⟨rfl, e128, (by decide : 0 + 0 ≤ _), (by decide : 0 + 0 ≤ _)⟩)
      dsimp only [Pt.U, Pt.locs, Pt.cells, Pt.slots] at X134 l137 y138 z139 st140 hQ136
      subst l137 y138 z139
      obtain ⟨rfl, N142, e143⟩ := hQ136
      have N144 := Fr.app N125 N142
      refine own_tr (S' := (T130.setTop (mkF m 20 #[iv v0, iv (0 : Int32), iv (1 : Int32), .unset, .unset, .unset, .unset, .unset, .unset, .unset] [(.int (0 : Int32))]))) st140 ?_
      refine own_bk (S' := (T130.setTop (mkF m 21 #[iv v0, iv (0 : Int32), iv (1 : Int32), iv (0 : Int32), .unset, .unset, .unset, .unset, .unset, .unset] []))) (fun t_ kont => XS.istoreN X134.here hx rfl (hb hby at_20) rfl (l' := #[iv v0, iv (0 : Int32), iv (1 : Int32), iv (0 : Int32), .unset, .unset, .unset, .unset, .unset, .unset]) rfl kont) ?_
      obtain ⟨T145, X146, e147, st148⟩ := getS2 X134 hx hZ hown (host := "") (Or.inl (hw _ (List.mem_of_getElem? (i := 23) rfl))) Via.refl e143 G_MAX_INCLUSIVE.1 (g := (mkF m 21 #[iv v0, iv (0 : Int32), iv (1 : Int32), iv (0 : Int32), .unset, .unset, .unset, .unset, .unset, .unset] [])) rfl (hb hby at_21)
      refine own_bk (S' := (T145.setTop (mkF m 24 #[iv v0, iv (0 : Int32), iv (1 : Int32), iv (0 : Int32), .unset, .unset, .unset, .unset, .unset, .unset] [(.ref r_MAX_INCLUSIVE)]))) st148 ?_
      refine own_bk (S' := (T145.setTop (mkF m 25 #[iv v0, iv (0 : Int32), iv (1 : Int32), iv (0 : Int32), .unset, .unset, .unset, .unset, .unset, .unset] [(.int v0), (.ref r_MAX_INCLUSIVE)]))) (fun t_ kont => XS.iloadN X146.here hx rfl (hb hby at_24) rfl kont) ?_
      obtain ⟨cqq160, kqq160, q160a, q160b, q160c⟩ := isOf hZ e147 G_MAX_INCLUSIVE.2.1
      obtain ⟨_, _, ⟨T149, L150, k151, n152⟩, -, X153, ⟨Lc154, hQ155, l156, y157, z158⟩, st159⟩ := X146.virtualBack hx (y := (⟨"com/example/markupkeel/markupkeel/schema/Facet$Bound$Kind", "holds", "(I)Z"⟩ : MethodName)) (z := (⟨"com/example/markupkeel/markupkeel/schema/Facet$Bound$Kind", "holds", "(I)Z"⟩ : MethodName)) hown (mvT hZ (hw _ (List.mem_of_getElem? (i := 7) rfl))) (mvT hZ (hw _ (List.mem_of_getElem? (i := 8) rfl))) (notFace_of_selects (args := #[]) (mvT hZ (hw _ (List.mem_of_getElem? (i := 10) rfl)))) (mvT hZ (hw _ (List.mem_of_getElem? (i := 10) rfl))) (mvT hZ (hw _ (List.mem_of_getElem? (i := 9) rfl))) (by decide) (backOf (W := 0) (rm2_2 l Z a0 hw [] r_MAX_INCLUSIVE v0 (1 : Int32) h0 n0 Z0 G_MAX_INCLUSIVE.2.1 G_MAX_INCLUSIVE.2.2 (by simp [hc92])) hZ (hw _ (List.mem_of_getElem? (i := 11) rfl)) (hw _ (List.mem_of_getElem? (i := 5) rfl)) (by decide) (by decide)) q160a q160c (g := (mkF m 25 #[iv v0, iv (0 : Int32), iv (1 : Int32), iv (0 : Int32), .unset, .unset, .unset, .unset, .unset, .unset] [(.int v0), (.ref r_MAX_INCLUSIVE)])) rfl (by rw [hml]; rfl) (Steps.refl _) (argsL := [(.int v0)]) (rest := []) (lenOf (by decide +kernel : parseMethodDescriptor "(I)Z" = some ⟨[.int], some .boolean⟩) rfl) rfl (by show 2 * 0 + _ ≤ _; exact Nat.le_of_eq rfl) (hb hby at_25) (fun _ _ => ⟨rfl, e147, (by decide : 0 + 0 ≤ _), (by decide : 0 + 0 ≤ _)⟩)
      dsimp only [Pt.U, Pt.locs, Pt.cells, Pt.slots] at X153 l156 y157 z158 st159 hQ155
      subst l156 y157 z158
      obtain ⟨rfl, N161, e162⟩ := hQ155
      have N163 := Fr.app N144 N161
      refine own_tr (S' := (T149.setTop (mkF m 28 #[iv v0, iv (0 : Int32), iv (1 : Int32), iv (0 : Int32), .unset, .unset, .unset, .unset, .unset, .unset] [(.int (1 : Int32))]))) st159 ?_
      refine own_bk (S' := (T149.setTop (mkF m 30 #[iv v0, iv (0 : Int32), iv (1 : Int32), iv (0 : Int32), iv (1 : Int32), .unset, .unset, .unset, .unset, .unset] []))) (fun t_ kont => XS.istore X153.here hx rfl (hb hby at_28) rfl (l' := #[iv v0, iv (0 : Int32), iv (1 : Int32), iv (0 : Int32), iv (1 : Int32), .unset, .unset, .unset, .unset, .unset]) rfl kont) ?_
      obtain ⟨T164, X165, e166, st167⟩ := getS2 X153 hx hZ hown (host := "") (Or.inl (hw _ (List.mem_of_getElem? (i := 25) rfl))) Via.refl e162 G_MAX_EXCLUSIVE.1 (g := (mkF m 30 #[iv v0, iv (0 : Int32), iv (1 : Int32), iv (0 : Int32), iv (1 : Int32), .unset, .unset, .unset, .unset, .unset] [])) rfl (hb hby at_30)
      refine own_bk (S' := (T164.setTop (mkF m 33 #[iv v0, iv (0 : Int32), iv (1 : Int32), iv (0 : Int32), iv (1 : Int32), .unset, .unset, .unset, .unset, .unset] [(.ref r_MAX_EXCLUSIVE)]))) st167 ?_
      refine own_bk (S' := (T164.setTop (mkF m 34 #[iv v0, iv (0 : Int32), iv (1 : Int32), iv (0 : Int32), iv (1 : Int32), .unset, .unset, .unset, .unset, .unset] [(.int v0), (.ref r_MAX_EXCLUSIVE)]))) (fun t_ kont => XS.iloadN X165.here hx rfl (hb hby at_33) rfl kont) ?_
      obtain ⟨cqq179, kqq179, q179a, q179b, q179c⟩ := isOf hZ e166 G_MAX_EXCLUSIVE.2.1
      obtain ⟨_, _, ⟨T168, L169, k170, n171⟩, -, X172, ⟨Lc173, hQ174, l175, y176, z177⟩, st178⟩ := X165.virtualBack hx (y := (⟨"com/example/markupkeel/markupkeel/schema/Facet$Bound$Kind", "holds", "(I)Z"⟩ : MethodName)) (z := (⟨"com/example/markupkeel/markupkeel/schema/Facet$Bound$Kind", "holds", "(I)Z"⟩ : MethodName)) hown (mvT hZ (hw _ (List.mem_of_getElem? (i := 7) rfl))) (mvT hZ (hw _ (List.mem_of_getElem? (i := 8) rfl))) (notFace_of_selects (args := #[]) (mvT hZ (hw _ (List.mem_of_getElem? (i := 10) rfl)))) (mvT hZ (hw _ (List.mem_of_getElem? (i := 10) rfl))) (mvT hZ (hw _ (List.mem_of_getElem? (i := 9) rfl))) (by decide) (backOf (W := 0) (rm2_3 l Z a0 hw [] r_MAX_EXCLUSIVE v0 (0 : Int32) h0 n0 Z0 G_MAX_EXCLUSIVE.2.1 G_MAX_EXCLUSIVE.2.2 (by simp [hc92])) hZ (hw _ (List.mem_of_getElem? (i := 11) rfl)) (hw _ (List.mem_of_getElem? (i := 5) rfl)) (by decide) (by decide)) q179a q179c (g := (mkF m 34 #[iv v0, iv (0 : Int32), iv (1 : Int32), iv (0 : Int32), iv (1 : Int32), .unset, .unset, .unset, .unset, .unset] [(.int v0), (.ref r_MAX_EXCLUSIVE)])) rfl (by rw [hml]; rfl) (Steps.refl _) (argsL := [(.int v0)]) (rest := []) (lenOf (by decide +kernel : parseMethodDescriptor "(I)Z" = some ⟨[.int], some .boolean⟩) rfl) rfl (by show 2 * 0 + _ ≤ _; exact Nat.le_of_eq rfl) (hb hby at_34) (fun _ _ => ⟨rfl, e166, (by decide : 0 + 0 ≤ _), (by decide : 0 + 0 ≤ _)⟩)
      dsimp only [Pt.U, Pt.locs, Pt.cells, Pt.slots] at X172 l175 y176 z177 st178 hQ174
      subst l175 y176 z177
      obtain ⟨rfl, N180, e181⟩ := hQ174
      have N182 := Fr.app N163 N180
      refine own_tr (S' := (T168.setTop (mkF m 37 #[iv v0, iv (0 : Int32), iv (1 : Int32), iv (0 : Int32), iv (1 : Int32), .unset, .unset, .unset, .unset, .unset] [(.int (0 : Int32))]))) st178 ?_
      refine own_bk (S' := (T168.setTop (mkF m 39 #[iv v0, iv (0 : Int32), iv (1 : Int32), iv (0 : Int32), iv (1 : Int32), iv (0 : Int32), .unset, .unset, .unset, .unset] []))) (fun t_ kont => XS.istore X172.here hx rfl (hb hby at_37) rfl (l' := #[iv v0, iv (0 : Int32), iv (1 : Int32), iv (0 : Int32), iv (1 : Int32), iv (0 : Int32), .unset, .unset, .unset, .unset]) rfl kont) ?_
      refine own_bk (S' := (T168.setTop (mkF m 40 #[iv v0, iv (0 : Int32), iv (1 : Int32), iv (0 : Int32), iv (1 : Int32), iv (0 : Int32), .unset, .unset, .unset, .unset] [(.int (0 : Int32))]))) (fun t_ kont => XS.iloadN X172.here hx rfl (hb hby at_39) rfl kont) ?_
      refine own_bk (S' := (T168.setTop (mkF m 41 #[iv v0, iv (0 : Int32), iv (1 : Int32), iv (0 : Int32), iv (1 : Int32), iv (0 : Int32), .unset, .unset, .unset, .unset] [(.int (-1 : Int32)), (.int (0 : Int32))]))) (fun t_ kont => XS.iconst X172.here hx rfl (hb hby at_40) kont) ?_
      refine own_bk (S' := (T168.setTop (mkF m 44 #[iv v0, iv (0 : Int32), iv (1 : Int32), iv (0 : Int32), iv (1 : Int32), iv (0 : Int32), .unset, .unset, .unset, .unset] []))) (fun t_ kont => XS.icmpNo X172.here hx rfl (hb hby at_41) rfl (feq (by decide : ¬ ((0 : Int32)) = ((-1 : Int32)))).1 kont) ?_
      refine own_bk (S' := (T168.setTop (mkF m 45 #[iv v0, iv (0 : Int32), iv (1 : Int32), iv (0 : Int32), iv (1 : Int32), iv (0 : Int32), .unset, .unset, .unset, .unset] [(.int (1 : Int32))]))) (fun t_ kont => XS.iconst X172.here hx rfl (hb hby at_44) kont) ?_
      refine own_bk (S' := (T168.setTop (mkF m 49 #[iv v0, iv (0 : Int32), iv (1 : Int32), iv (0 : Int32), iv (1 : Int32), iv (0 : Int32), .unset, .unset, .unset, .unset] [(.int (1 : Int32))]))) (fun t_ kont => XS.goto X172.here hx rfl (pc0 := 45) (pc' := 49) rfl (hb hby at_45) (by decide) (by decide) kont) ?_
      refine own_bk (S' := (T168.setTop (mkF m 51 #[iv v0, iv (0 : Int32), iv (1 : Int32), iv (0 : Int32), iv (1 : Int32), iv (0 : Int32), iv (1 : Int32), .unset, .unset, .unset] []))) (fun t_ kont => XS.istore X172.here hx rfl (hb hby at_49) rfl (l' := #[iv v0, iv (0 : Int32), iv (1 : Int32), iv (0 : Int32), iv (1 : Int32), iv (0 : Int32), iv (1 : Int32), .unset, .unset, .unset]) rfl kont) ?_
      refine own_bk (S' := (T168.setTop (mkF m 52 #[iv v0, iv (0 : Int32), iv (1 : Int32), iv (0 : Int32), iv (1 : Int32), iv (0 : Int32), iv (1 : Int32), .unset, .unset, .unset] [(.int (0 : Int32))]))) (fun t_ kont => XS.iloadN X172.here hx rfl (hb hby at_51) rfl kont) ?_
      refine own_bk (S' := (T168.setTop (mkF m 53 #[iv v0, iv (0 : Int32), iv (1 : Int32), iv (0 : Int32), iv (1 : Int32), iv (0 : Int32), iv (1 : Int32), .unset, .unset, .unset] [(.int (1 : Int32)), (.int (0 : Int32))]))) (fun t_ kont => XS.iconst X172.here hx rfl (hb hby at_52) kont) ?_
      refine own_bk (S' := (T168.setTop (mkF m 60 #[iv v0, iv (0 : Int32), iv (1 : Int32), iv (0 : Int32), iv (1 : Int32), iv (0 : Int32), iv (1 : Int32), .unset, .unset, .unset] []))) (fun t_ kont => XS.icmpYes X172.here hx rfl (pc0 := 53) (pc' := 60) rfl (hb hby at_53) rfl (feq (by decide : ¬ ((0 : Int32)) = ((1 : Int32)))).2 (by decide) (by decide) kont) ?_
      refine own_bk (S' := (T168.setTop (mkF m 61 #[iv v0, iv (0 : Int32), iv (1 : Int32), iv (0 : Int32), iv (1 : Int32), iv (0 : Int32), iv (1 : Int32), .unset, .unset, .unset] [(.int (0 : Int32))]))) (fun t_ kont => XS.iconst X172.here hx rfl (hb hby at_60) kont) ?_
      refine own_bk (S' := (T168.setTop (mkF m 63 #[iv v0, iv (0 : Int32), iv (1 : Int32), iv (0 : Int32), iv (1 : Int32), iv (0 : Int32), iv (1 : Int32), iv (0 : Int32), .unset, .unset] []))) (fun t_ kont => XS.istore X172.here hx rfl (hb hby at_61) rfl (l' := #[iv v0, iv (0 : Int32), iv (1 : Int32), iv (0 : Int32), iv (1 : Int32), iv (0 : Int32), iv (1 : Int32), iv (0 : Int32), .unset, .unset]) rfl kont) ?_
      refine own_bk (S' := (T168.setTop (mkF m 64 #[iv v0, iv (0 : Int32), iv (1 : Int32), iv (0 : Int32), iv (1 : Int32), iv (0 : Int32), iv (1 : Int32), iv (0 : Int32), .unset, .unset] [(.int (0 : Int32))]))) (fun t_ kont => XS.iloadN X172.here hx rfl (hb hby at_63) rfl kont) ?_
      refine own_bk (S' := (T168.setTop (mkF m 65 #[iv v0, iv (0 : Int32), iv (1 : Int32), iv (0 : Int32), iv (1 : Int32), iv (0 : Int32), iv (1 : Int32), iv (0 : Int32), .unset, .unset] [(.int (1 : Int32)), (.int (0 : Int32))]))) (fun t_ kont => XS.iconst X172.here hx rfl (hb hby at_64) kont) ?_
      refine own_bk (S' := (T168.setTop (mkF m 68 #[iv v0, iv (0 : Int32), iv (1 : Int32), iv (0 : Int32), iv (1 : Int32), iv (0 : Int32), iv (1 : Int32), iv (0 : Int32), .unset, .unset] []))) (fun t_ kont => XS.icmpNo X172.here hx rfl (hb hby at_65) rfl (feq (by decide : ¬ ((0 : Int32)) = ((1 : Int32)))).1 kont) ?_
      refine own_bk (S' := (T168.setTop (mkF m 69 #[iv v0, iv (0 : Int32), iv (1 : Int32), iv (0 : Int32), iv (1 : Int32), iv (0 : Int32), iv (1 : Int32), iv (0 : Int32), .unset, .unset] [(.int (1 : Int32))]))) (fun t_ kont => XS.iconst X172.here hx rfl (hb hby at_68) kont) ?_
      refine own_bk (S' := (T168.setTop (mkF m 73 #[iv v0, iv (0 : Int32), iv (1 : Int32), iv (0 : Int32), iv (1 : Int32), iv (0 : Int32), iv (1 : Int32), iv (0 : Int32), .unset, .unset] [(.int (1 : Int32))]))) (fun t_ kont => XS.goto X172.here hx rfl (pc0 := 69) (pc' := 73) rfl (hb hby at_69) (by decide) (by decide) kont) ?_
      refine own_bk (S' := (T168.setTop (mkF m 75 #[iv v0, iv (0 : Int32), iv (1 : Int32), iv (0 : Int32), iv (1 : Int32), iv (0 : Int32), iv (1 : Int32), iv (0 : Int32), iv (1 : Int32), .unset] []))) (fun t_ kont => XS.istore X172.here hx rfl (hb hby at_73) rfl (l' := #[iv v0, iv (0 : Int32), iv (1 : Int32), iv (0 : Int32), iv (1 : Int32), iv (0 : Int32), iv (1 : Int32), iv (0 : Int32), iv (1 : Int32), .unset]) rfl kont) ?_
      refine own_bk (S' := (T168.setTop (mkF m 76 #[iv v0, iv (0 : Int32), iv (1 : Int32), iv (0 : Int32), iv (1 : Int32), iv (0 : Int32), iv (1 : Int32), iv (0 : Int32), iv (1 : Int32), .unset] [(.int (0 : Int32))]))) (fun t_ kont => XS.iloadN X172.here hx rfl (hb hby at_75) rfl kont) ?_
      refine own_bk (S' := (T168.setTop (mkF m 77 #[iv v0, iv (0 : Int32), iv (1 : Int32), iv (0 : Int32), iv (1 : Int32), iv (0 : Int32), iv (1 : Int32), iv (0 : Int32), iv (1 : Int32), .unset] [(.int (-1 : Int32)), (.int (0 : Int32))]))) (fun t_ kont => XS.iconst X172.here hx rfl (hb hby at_76) kont) ?_
      refine own_bk (S' := (T168.setTop (mkF m 84 #[iv v0, iv (0 : Int32), iv (1 : Int32), iv (0 : Int32), iv (1 : Int32), iv (0 : Int32), iv (1 : Int32), iv (0 : Int32), iv (1 : Int32), .unset] []))) (fun t_ kont => XS.icmpYes X172.here hx rfl (pc0 := 77) (pc' := 84) rfl (hb hby at_77) rfl (feq (by decide : ¬ ((0 : Int32)) = ((-1 : Int32)))).2 (by decide) (by decide) kont) ?_
      refine own_bk (S' := (T168.setTop (mkF m 85 #[iv v0, iv (0 : Int32), iv (1 : Int32), iv (0 : Int32), iv (1 : Int32), iv (0 : Int32), iv (1 : Int32), iv (0 : Int32), iv (1 : Int32), .unset] [(.int (0 : Int32))]))) (fun t_ kont => XS.iconst X172.here hx rfl (hb hby at_84) kont) ?_
      refine own_bk (S' := (T168.setTop (mkF m 87 #[iv v0, iv (0 : Int32), iv (1 : Int32), iv (0 : Int32), iv (1 : Int32), iv (0 : Int32), iv (1 : Int32), iv (0 : Int32), iv (1 : Int32), iv (0 : Int32)] []))) (fun t_ kont => XS.istore X172.here hx rfl (hb hby at_85) rfl (l' := #[iv v0, iv (0 : Int32), iv (1 : Int32), iv (0 : Int32), iv (1 : Int32), iv (0 : Int32), iv (1 : Int32), iv (0 : Int32), iv (1 : Int32), iv (0 : Int32)]) rfl kont) ?_
      refine own_bk (S' := (T168.setTop (mkF m 88 #[iv v0, iv (0 : Int32), iv (1 : Int32), iv (0 : Int32), iv (1 : Int32), iv (0 : Int32), iv (1 : Int32), iv (0 : Int32), iv (1 : Int32), iv (0 : Int32)] [(.int (1 : Int32))]))) (fun t_ kont => XS.iloadN X172.here hx rfl (hb hby at_87) rfl kont) ?_
      refine own_bk (S' := (T168.setTop (mkF m 90 #[iv v0, iv (0 : Int32), iv (1 : Int32), iv (0 : Int32), iv (1 : Int32), iv (0 : Int32), iv (1 : Int32), iv (0 : Int32), iv (1 : Int32), iv (0 : Int32)] [(.int (1 : Int32)), (.int (1 : Int32))]))) (fun t_ kont => XS.iload X172.here hx rfl (hb hby at_88) rfl kont) ?_
      refine own_bk (S' := (T168.setTop (mkF m 93 #[iv v0, iv (0 : Int32), iv (1 : Int32), iv (0 : Int32), iv (1 : Int32), iv (0 : Int32), iv (1 : Int32), iv (0 : Int32), iv (1 : Int32), iv (0 : Int32)] []))) (fun t_ kont => XS.icmpNo X172.here hx rfl (hb hby at_90) rfl (teq (by decide : ((1 : Int32)) = ((1 : Int32)))).2 kont) ?_
      refine own_bk (S' := (T168.setTop (mkF m 94 #[iv v0, iv (0 : Int32), iv (1 : Int32), iv (0 : Int32), iv (1 : Int32), iv (0 : Int32), iv (1 : Int32), iv (0 : Int32), iv (1 : Int32), iv (0 : Int32)] [(.int (0 : Int32))]))) (fun t_ kont => XS.iloadN X172.here hx rfl (hb hby at_93) rfl kont) ?_
      refine own_bk (S' := (T168.setTop (mkF m 96 #[iv v0, iv (0 : Int32), iv (1 : Int32), iv (0 : Int32), iv (1 : Int32), iv (0 : Int32), iv (1 : Int32), iv (0 : Int32), iv (1 : Int32), iv (0 : Int32)] [(.int (0 : Int32)), (.int (0 : Int32))]))) (fun t_ kont => XS.iload X172.here hx rfl (hb hby at_94) rfl kont) ?_
      refine own_bk (S' := (T168.setTop (mkF m 99 #[iv v0, iv (0 : Int32), iv (1 : Int32), iv (0 : Int32), iv (1 : Int32), iv (0 : Int32), iv (1 : Int32), iv (0 : Int32), iv (1 : Int32), iv (0 : Int32)] []))) (fun t_ kont => XS.icmpNo X172.here hx rfl (hb hby at_96) rfl (teq (by decide : ((0 : Int32)) = ((0 : Int32)))).2 kont) ?_
      refine own_bk (S' := (T168.setTop (mkF m 101 #[iv v0, iv (0 : Int32), iv (1 : Int32), iv (0 : Int32), iv (1 : Int32), iv (0 : Int32), iv (1 : Int32), iv (0 : Int32), iv (1 : Int32), iv (0 : Int32)] [(.int (1 : Int32))]))) (fun t_ kont => XS.iload X172.here hx rfl (hb hby at_99) rfl kont) ?_
      refine own_bk (S' := (T168.setTop (mkF m 103 #[iv v0, iv (0 : Int32), iv (1 : Int32), iv (0 : Int32), iv (1 : Int32), iv (0 : Int32), iv (1 : Int32), iv (0 : Int32), iv (1 : Int32), iv (0 : Int32)] [(.int (1 : Int32)), (.int (1 : Int32))]))) (fun t_ kont => XS.iload X172.here hx rfl (hb hby at_101) rfl kont) ?_
      refine own_bk (S' := (T168.setTop (mkF m 106 #[iv v0, iv (0 : Int32), iv (1 : Int32), iv (0 : Int32), iv (1 : Int32), iv (0 : Int32), iv (1 : Int32), iv (0 : Int32), iv (1 : Int32), iv (0 : Int32)] []))) (fun t_ kont => XS.icmpNo X172.here hx rfl (hb hby at_103) rfl (teq (by decide : ((1 : Int32)) = ((1 : Int32)))).2 kont) ?_
      refine own_bk (S' := (T168.setTop (mkF m 108 #[iv v0, iv (0 : Int32), iv (1 : Int32), iv (0 : Int32), iv (1 : Int32), iv (0 : Int32), iv (1 : Int32), iv (0 : Int32), iv (1 : Int32), iv (0 : Int32)] [(.int (0 : Int32))]))) (fun t_ kont => XS.iload X172.here hx rfl (hb hby at_106) rfl kont) ?_
      refine own_bk (S' := (T168.setTop (mkF m 110 #[iv v0, iv (0 : Int32), iv (1 : Int32), iv (0 : Int32), iv (1 : Int32), iv (0 : Int32), iv (1 : Int32), iv (0 : Int32), iv (1 : Int32), iv (0 : Int32)] [(.int (0 : Int32)), (.int (0 : Int32))]))) (fun t_ kont => XS.iload X172.here hx rfl (hb hby at_108) rfl kont) ?_
      refine own_bk (S' := (T168.setTop (mkF m 113 #[iv v0, iv (0 : Int32), iv (1 : Int32), iv (0 : Int32), iv (1 : Int32), iv (0 : Int32), iv (1 : Int32), iv (0 : Int32), iv (1 : Int32), iv (0 : Int32)] []))) (fun t_ kont => XS.icmpNo X172.here hx rfl (hb hby at_110) rfl (teq (by decide : ((0 : Int32)) = ((0 : Int32)))).2 kont) ?_
      refine own_bk (S' := (T168.setTop (mkF m 114 #[iv v0, iv (0 : Int32), iv (1 : Int32), iv (0 : Int32), iv (1 : Int32), iv (0 : Int32), iv (1 : Int32), iv (0 : Int32), iv (1 : Int32), iv (0 : Int32)] [(.int (1 : Int32))]))) (fun t_ kont => XS.iconst X172.here hx rfl (hb hby at_113) kont) ?_
      refine own_bk (S' := (T168.setTop (mkF m 118 #[iv v0, iv (0 : Int32), iv (1 : Int32), iv (0 : Int32), iv (1 : Int32), iv (0 : Int32), iv (1 : Int32), iv (0 : Int32), iv (1 : Int32), iv (0 : Int32)] [(.int (1 : Int32))]))) (fun t_ kont => XS.goto X172.here hx rfl (pc0 := 114) (pc' := 118) rfl (hb hby at_114) (by decide) (by decide) kont) ?_
      exact own_retN X172 hx hlk (t := .boolean) (w := (1 : Int32)) Bd.returns (by simp) (hb hby at_118) rfl ⟨rfl, N182⟩ (by decide) (by decide)
    · refine own_bk (S' := (s₁.setTop (mkF m 1 #[iv v0, .unset, .unset, .unset, .unset, .unset, .unset, .unset, .unset, .unset] [(.int v0)]))) (fun t_ kont => XS.iloadN X0.here hx rfl (hb hby at_0) rfl kont) ?_
      obtain ⟨_, _, ⟨T183, L184, k185, n186⟩, -, X187, ⟨Lc188, hQ189, l190, y191, z192⟩, st193⟩ := Jvm.LawKit.callS X0 hx (y := (⟨"com/example/markupkeel/markupkeel/schema/KindHoldsPinLaw", "sign", "(I)I"⟩ : MethodName)) hown (mvT hZ (hw _ (List.mem_of_getElem? (i := 0) rfl))) (mvT hZ (hw _ (List.mem_of_getElem? (i := 1) rfl))) (mvT hZ (hw _ (List.mem_of_getElem? (i := 2) rfl))) (mvT hZ (hw _ (List.mem_of_getElem? (i := 3) rfl))) (by decide) (backOf (W := 0) (rm1 l Z a0 hw [] v0 (1 : Int32) h0 n0 Z0 (by simp [hc1, hc92])) hZ (hw _ (List.mem_of_getElem? (i := 3) rfl)) (hw _ (List.mem_of_getElem? (i := 2) rfl)) (by decide) (by decide)) (g := (mkF m 1 #[iv v0, .unset, .unset, .unset, .unset, .unset, .unset, .unset, .unset, .unset] [(.int v0)])) rfl (by rw [hml]; rfl) (argsL := [(.int v0)]) (rest := []) (lenOf (by decide +kernel : parseMethodDescriptor "(I)I" = some ⟨[.int], some .int⟩) rfl) rfl (by show 2 * 0 + _ ≤ _; exact Nat.le_of_eq rfl) (hb hby at_1) (fun _ _ => ⟨rfl, e0, (by decide : 0 + 0 ≤ _), (by decide : 0 + 0 ≤ _)⟩)
      dsimp only [Pt.U, Pt.locs, Pt.cells, Pt.slots] at X187 l190 y191 z192 st193 hQ189
      subst l190 y191 z192
      obtain ⟨rfl, N194, e195⟩ := hQ189
      have N196 := Fr.app N0 N194
      refine own_bk (S' := (T183.setTop (mkF m 4 #[iv v0, .unset, .unset, .unset, .unset, .unset, .unset, .unset, .unset, .unset] [(.int (1 : Int32))]))) st193 ?_
      refine own_bk (S' := (T183.setTop (mkF m 5 #[iv v0, iv (1 : Int32), .unset, .unset, .unset, .unset, .unset, .unset, .unset, .unset] []))) (fun t_ kont => XS.istoreN X187.here hx rfl (hb hby at_4) rfl (l' := #[iv v0, iv (1 : Int32), .unset, .unset, .unset, .unset, .unset, .unset, .unset, .unset]) rfl kont) ?_
      obtain ⟨T197, X198, e199, st200⟩ := getS2 X187 hx hZ hown (host := "") (Or.inl (hw _ (List.mem_of_getElem? (i := 4) rfl))) Via.refl e195 G_MIN_INCLUSIVE.1 (g := (mkF m 5 #[iv v0, iv (1 : Int32), .unset, .unset, .unset, .unset, .unset, .unset, .unset, .unset] [])) rfl (hb hby at_5)
      refine own_bk (S' := (T197.setTop (mkF m 8 #[iv v0, iv (1 : Int32), .unset, .unset, .unset, .unset, .unset, .unset, .unset, .unset] [(.ref r_MIN_INCLUSIVE)]))) st200 ?_
      refine own_bk (S' := (T197.setTop (mkF m 9 #[iv v0, iv (1 : Int32), .unset, .unset, .unset, .unset, .unset, .unset, .unset, .unset] [(.int v0), (.ref r_MIN_INCLUSIVE)]))) (fun t_ kont => XS.iloadN X198.here hx rfl (hb hby at_8) rfl kont) ?_
      obtain ⟨cqq212, kqq212, q212a, q212b, q212c⟩ := isOf hZ e199 G_MIN_INCLUSIVE.2.1
      obtain ⟨_, _, ⟨T201, L202, k203, n204⟩, -, X205, ⟨Lc206, hQ207, l208, y209, z210⟩, st211⟩ := X198.virtualBack hx (y := (⟨"com/example/markupkeel/markupkeel/schema/Facet$Bound$Kind", "holds", "(I)Z"⟩ : MethodName)) (z := (⟨"com/example/markupkeel/markupkeel/schema/Facet$Bound$Kind", "holds", "(I)Z"⟩ : MethodName)) hown (mvT hZ (hw _ (List.mem_of_getElem? (i := 7) rfl))) (mvT hZ (hw _ (List.mem_of_getElem? (i := 8) rfl))) (notFace_of_selects (args := #[]) (mvT hZ (hw _ (List.mem_of_getElem? (i := 10) rfl)))) (mvT hZ (hw _ (List.mem_of_getElem? (i := 10) rfl))) (mvT hZ (hw _ (List.mem_of_getElem? (i := 9) rfl))) (by decide) (backOf (W := 0) (rm2_0 l Z a0 hw [] r_MIN_INCLUSIVE v0 (1 : Int32) h0 n0 Z0 G_MIN_INCLUSIVE.2.1 G_MIN_INCLUSIVE.2.2 (by simp [hc1, own_pos hc1 hc92])) hZ (hw _ (List.mem_of_getElem? (i := 11) rfl)) (hw _ (List.mem_of_getElem? (i := 5) rfl)) (by decide) (by decide)) q212a q212c (g := (mkF m 9 #[iv v0, iv (1 : Int32), .unset, .unset, .unset, .unset, .unset, .unset, .unset, .unset] [(.int v0), (.ref r_MIN_INCLUSIVE)])) rfl (by rw [hml]; rfl) (Steps.refl _) (argsL := [(.int v0)]) (rest := []) (lenOf (by decide +kernel : parseMethodDescriptor "(I)Z" = some ⟨[.int], some .boolean⟩) rfl) rfl (by show 2 * 0 + _ ≤ _; exact Nat.le_of_eq rfl) (hb hby at_9) (fun _ _ => ⟨rfl, e199, (by decide : 0 + 0 ≤ _), (by decide : 0 + 0 ≤ _)⟩)
      dsimp only [Pt.U, Pt.locs, Pt.cells, Pt.slots] at X205 l208 y209 z210 st211 hQ207
      subst l208 y209 z210
      obtain ⟨rfl, N213, e214⟩ := hQ207
      have N215 := Fr.app N196 N213
      refine own_tr (S' := (T201.setTop (mkF m 12 #[iv v0, iv (1 : Int32), .unset, .unset, .unset, .unset, .unset, .unset, .unset, .unset] [(.int (1 : Int32))]))) st211 ?_
      refine own_bk (S' := (T201.setTop (mkF m 13 #[iv v0, iv (1 : Int32), iv (1 : Int32), .unset, .unset, .unset, .unset, .unset, .unset, .unset] []))) (fun t_ kont => XS.istoreN X205.here hx rfl (hb hby at_12) rfl (l' := #[iv v0, iv (1 : Int32), iv (1 : Int32), .unset, .unset, .unset, .unset, .unset, .unset, .unset]) rfl kont) ?_
      obtain ⟨T216, X217, e218, st219⟩ := getS2 X205 hx hZ hown (host := "") (Or.inl (hw _ (List.mem_of_getElem? (i := 21) rfl))) Via.refl e214 G_MIN_EXCLUSIVE.1 (g := (mkF m 13 #[iv v0, iv (1 : Int32), iv (1 : Int32), .unset, .unset, .unset, .unset, .unset, .unset, .unset] [])) rfl (hb hby at_13)
      refine own_bk (S' := (T216.setTop (mkF m 16 #[iv v0, iv (1 : Int32), iv (1 : Int32), .unset, .unset, .unset, .unset, .unset, .unset, .unset] [(.ref r_MIN_EXCLUSIVE)]))) st219 ?_
      refine own_bk (S' := (T216.setTop (mkF m 17 #[iv v0, iv (1 : Int32), iv (1 : Int32), .unset, .unset, .unset, .unset, .unset, .unset, .unset] [(.int v0), (.ref r_MIN_EXCLUSIVE)]))) (fun t_ kont => XS.iloadN X217.here hx rfl (hb hby at_16) rfl kont) ?_
      obtain ⟨cqq231, kqq231, q231a, q231b, q231c⟩ := isOf hZ e218 G_MIN_EXCLUSIVE.2.1
      obtain ⟨_, _, ⟨T220, L221, k222, n223⟩, -, X224, ⟨Lc225, hQ226, l227, y228, z229⟩, st230⟩ := X217.virtualBack hx (y := (⟨"com/example/markupkeel/markupkeel/schema/Facet$Bound$Kind", "holds", "(I)Z"⟩ : MethodName)) (z := (⟨"com/example/markupkeel/markupkeel/schema/Facet$Bound$Kind", "holds", "(I)Z"⟩ : MethodName)) hown (mvT hZ (hw _ (List.mem_of_getElem? (i := 7) rfl))) (mvT hZ (hw _ (List.mem_of_getElem? (i := 8) rfl))) (notFace_of_selects (args := #[]) (mvT hZ (hw _ (List.mem_of_getElem? (i := 10) rfl)))) (mvT hZ (hw _ (List.mem_of_getElem? (i := 10) rfl))) (mvT hZ (hw _ (List.mem_of_getElem? (i := 9) rfl))) (by decide) (backOf (W := 0) (rm2_1 l Z a0 hw [] r_MIN_EXCLUSIVE v0 (1 : Int32) h0 n0 Z0 G_MIN_EXCLUSIVE.2.1 G_MIN_EXCLUSIVE.2.2 (by simp [hc1, own_pos hc1 hc92])) hZ (hw _ (List.mem_of_getElem? (i := 11) rfl)) (hw _ (List.mem_of_getElem? (i := 5) rfl)) (by decide) (by decide)) q231a q231c (g := (mkF m 17 #[iv v0, iv (1 : Int32), iv (1 : Int32), .unset, .unset, .unset, .unset, .unset, .unset, .unset] [(.int v0), (.ref r_MIN_EXCLUSIVE)])) rfl (by rw [hml]; rfl) (Steps.refl _) (argsL := [(.int v0)]) (rest := []) (lenOf (by decide +kernel : parseMethodDescriptor "(I)Z" = some ⟨[.int], some .boolean⟩) rfl) rfl (by show 2 * 0 + _ ≤ _; exact Nat.le_of_eq rfl) (hb hby at_17) (fun _ _ => ⟨rfl, e218, (by decide : 0 + 0 ≤ _), (by decide : 0 + 0 ≤ _)⟩)
      dsimp only [Pt.U, Pt.locs, Pt.cells, Pt.slots] at X224 l227 y228 z229 st230 hQ226
      subst l227 y228 z229
      obtain ⟨rfl, N232, e233⟩ := hQ226
      have N234 := Fr.app N215 N232
      refine own_tr (S' := (T220.setTop (mkF m 20 #[iv v0, iv (1 : Int32), iv (1 : Int32), .unset, .unset, .unset, .unset, .unset, .unset, .unset] [(.int (1 : Int32))]))) st230 ?_
      refine own_bk (S' := (T220.setTop (mkF m 21 #[iv v0, iv (1 : Int32), iv (1 : Int32), iv (1 : Int32), .unset, .unset, .unset, .unset, .unset, .unset] []))) (fun t_ kont => XS.istoreN X224.here hx rfl (hb hby at_20) rfl (l' := #[iv v0, iv (1 : Int32), iv (1 : Int32), iv (1 : Int32), .unset, .unset, .unset, .unset, .unset, .unset]) rfl kont) ?_
      obtain ⟨T235, X236, e237, st238⟩ := getS2 X224 hx hZ hown (host := "") (Or.inl (hw _ (List.mem_of_getElem? (i := 23) rfl))) Via.refl e233 G_MAX_INCLUSIVE.1 (g := (mkF m 21 #[iv v0, iv (1 : Int32), iv (1 : Int32), iv (1 : Int32), .unset, .unset, .unset, .unset, .unset, .unset] [])) rfl (hb hby at_21)
      refine own_bk (S' := (T235.setTop (mkF m 24 #[iv v0, iv (1 : Int32), iv (1 : Int32), iv (1 : Int32), .unset, .unset, .unset, .unset, .unset, .unset] [(.ref r_MAX_INCLUSIVE)]))) st238 ?_
      refine own_bk (S' := (T235.setTop (mkF m 25 #[iv v0, iv (1 : Int32), iv (1 : Int32), iv (1 : Int32), .unset, .unset, .unset, .unset, .unset, .unset] [(.int v0), (.ref r_MAX_INCLUSIVE)]))) (fun t_ kont => XS.iloadN X236.here hx rfl (hb hby at_24) rfl kont) ?_
      obtain ⟨cqq250, kqq250, q250a, q250b, q250c⟩ := isOf hZ e237 G_MAX_INCLUSIVE.2.1
      obtain ⟨_, _, ⟨T239, L240, k241, n242⟩, -, X243, ⟨Lc244, hQ245, l246, y247, z248⟩, st249⟩ := X236.virtualBack hx (y := (⟨"com/example/markupkeel/markupkeel/schema/Facet$Bound$Kind", "holds", "(I)Z"⟩ : MethodName)) (z := (⟨"com/example/markupkeel/markupkeel/schema/Facet$Bound$Kind", "holds", "(I)Z"⟩ : MethodName)) hown (mvT hZ (hw _ (List.mem_of_getElem? (i := 7) rfl))) (mvT hZ (hw _ (List.mem_of_getElem? (i := 8) rfl))) (notFace_of_selects (args := #[]) (mvT hZ (hw _ (List.mem_of_getElem? (i := 10) rfl)))) (mvT hZ (hw _ (List.mem_of_getElem? (i := 10) rfl))) (mvT hZ (hw _ (List.mem_of_getElem? (i := 9) rfl))) (by decide) (backOf (W := 0) (rm2_2 l Z a0 hw [] r_MAX_INCLUSIVE v0 (0 : Int32) h0 n0 Z0 G_MAX_INCLUSIVE.2.1 G_MAX_INCLUSIVE.2.2 (by simp [hc1, own_pos hc1 hc92])) hZ (hw _ (List.mem_of_getElem? (i := 11) rfl)) (hw _ (List.mem_of_getElem? (i := 5) rfl)) (by decide) (by decide)) q250a q250c (g := (mkF m 25 #[iv v0, iv (1 : Int32), iv (1 : Int32), iv (1 : Int32), .unset, .unset, .unset, .unset, .unset, .unset] [(.int v0), (.ref r_MAX_INCLUSIVE)])) rfl (by rw [hml]; rfl) (Steps.refl _) (argsL := [(.int v0)]) (rest := []) (lenOf (by decide +kernel : parseMethodDescriptor "(I)Z" = some ⟨[.int], some .boolean⟩) rfl) rfl (by show 2 * 0 + _ ≤ _; exact Nat.le_of_eq rfl) (hb hby at_25) (fun _ _ => ⟨rfl, e237, (by decide : 0 + 0 ≤ _), (by decide : 0 + 0 ≤ _)⟩)
      dsimp only [Pt.U, Pt.locs, Pt.cells, Pt.slots] at X243 l246 y247 z248 st249 hQ245
      subst l246 y247 z248
      obtain ⟨rfl, N251, e252⟩ := hQ245
      have N253 := Fr.app N234 N251
      refine own_tr (S' := (T239.setTop (mkF m 28 #[iv v0, iv (1 : Int32), iv (1 : Int32), iv (1 : Int32), .unset, .unset, .unset, .unset, .unset, .unset] [(.int (0 : Int32))]))) st249 ?_
      refine own_bk (S' := (T239.setTop (mkF m 30 #[iv v0, iv (1 : Int32), iv (1 : Int32), iv (1 : Int32), iv (0 : Int32), .unset, .unset, .unset, .unset, .unset] []))) (fun t_ kont => XS.istore X243.here hx rfl (hb hby at_28) rfl (l' := #[iv v0, iv (1 : Int32), iv (1 : Int32), iv (1 : Int32), iv (0 : Int32), .unset, .unset, .unset, .unset, .unset]) rfl kont) ?_
      obtain ⟨T254, X255, e256, st257⟩ := getS2 X243 hx hZ hown (host := "") (Or.inl (hw _ (List.mem_of_getElem? (i := 25) rfl))) Via.refl e252 G_MAX_EXCLUSIVE.1 (g := (mkF m 30 #[iv v0, iv (1 : Int32), iv (1 : Int32), iv (1 : Int32), iv (0 : Int32), .unset, .unset, .unset, .unset, .unset] [])) rfl (hb hby at_30)
      refine own_bk (S' := (T254.setTop (mkF m 33 #[iv v0, iv (1 : Int32), iv (1 : Int32), iv (1 : Int32), iv (0 : Int32), .unset, .unset, .unset, .unset, .unset] [(.ref r_MAX_EXCLUSIVE)]))) st257 ?_
      refine own_bk (S' := (T254.setTop (mkF m 34 #[iv v0, iv (1 : Int32), iv (1 : Int32), iv (1 : Int32), iv (0 : Int32), .unset, .unset, .unset, .unset, .unset] [(.int v0), (.ref r_MAX_EXCLUSIVE)]))) (fun t_ kont => XS.iloadN X255.here hx rfl (hb hby at_33) rfl kont) ?_
      obtain ⟨cqq269, kqq269, q269a, q269b, q269c⟩ := isOf hZ e256 G_MAX_EXCLUSIVE.2.1
      obtain ⟨_, _, ⟨T258, L259, k260, n261⟩, -, X262, ⟨Lc263, hQ264, l265, y266, z267⟩, st268⟩ := X255.virtualBack hx (y := (⟨"com/example/markupkeel/markupkeel/schema/Facet$Bound$Kind", "holds", "(I)Z"⟩ : MethodName)) (z := (⟨"com/example/markupkeel/markupkeel/schema/Facet$Bound$Kind", "holds", "(I)Z"⟩ : MethodName)) hown (mvT hZ (hw _ (List.mem_of_getElem? (i := 7) rfl))) (mvT hZ (hw _ (List.mem_of_getElem? (i := 8) rfl))) (notFace_of_selects (args := #[]) (mvT hZ (hw _ (List.mem_of_getElem? (i := 10) rfl)))) (mvT hZ (hw _ (List.mem_of_getElem? (i := 10) rfl))) (mvT hZ (hw _ (List.mem_of_getElem? (i := 9) rfl))) (by decide) (backOf (W := 0) (rm2_3 l Z a0 hw [] r_MAX_EXCLUSIVE v0 (0 : Int32) h0 n0 Z0 G_MAX_EXCLUSIVE.2.1 G_MAX_EXCLUSIVE.2.2 (by simp [hc1, own_pos hc1 hc92])) hZ (hw _ (List.mem_of_getElem? (i := 11) rfl)) (hw _ (List.mem_of_getElem? (i := 5) rfl)) (by decide) (by decide)) q269a q269c (g := (mkF m 34 #[iv v0, iv (1 : Int32), iv (1 : Int32), iv (1 : Int32), iv (0 : Int32), .unset, .unset, .unset, .unset, .unset] [(.int v0), (.ref r_MAX_EXCLUSIVE)])) rfl (by rw [hml]; rfl) (Steps.refl _) (argsL := [(.int v0)]) (rest := []) (lenOf (by decide +kernel : parseMethodDescriptor "(I)Z" = some ⟨[.int], some .boolean⟩) rfl) rfl (by show 2 * 0 + _ ≤ _; exact Nat.le_of_eq rfl) (hb hby at_34) (fun _ _ => ⟨rfl, e256, (by decide : 0 + 0 ≤ _), (by decide : 0 + 0 ≤ _)⟩)
      dsimp only [Pt.U, Pt.locs, Pt.cells, Pt.slots] at X262 l265 y266 z267 st268 hQ264
      subst l265 y266 z267
      obtain ⟨rfl, N270, e271⟩ := hQ264
      have N272 := Fr.app N253 N270
      refine own_tr (S' := (T258.setTop (mkF m 37 #[iv v0, iv (1 : Int32), iv (1 : Int32), iv (1 : Int32), iv (0 : Int32), .unset, .unset, .unset, .unset, .unset] [(.int (0 : Int32))]))) st268 ?_
      refine own_bk (S' := (T258.setTop (mkF m 39 #[iv v0, iv (1 : Int32), iv (1 : Int32), iv (1 : Int32), iv (0 : Int32), iv (0 : Int32), .unset, .unset, .unset, .unset] []))) (fun t_ kont => XS.istore X262.here hx rfl (hb hby at_37) rfl (l' := #[iv v0, iv (1 : Int32), iv (1 : Int32), iv (1 : Int32), iv (0 : Int32), iv (0 : Int32), .unset, .unset, .unset, .unset]) rfl kont) ?_
      refine own_bk (S' := (T258.setTop (mkF m 40 #[iv v0, iv (1 : Int32), iv (1 : Int32), iv (1 : Int32), iv (0 : Int32), iv (0 : Int32), .unset, .unset, .unset, .unset] [(.int (1 : Int32))]))) (fun t_ kont => XS.iloadN X262.here hx rfl (hb hby at_39) rfl kont) ?_
      refine own_bk (S' := (T258.setTop (mkF m 41 #[iv v0, iv (1 : Int32), iv (1 : Int32), iv (1 : Int32), iv (0 : Int32), iv (0 : Int32), .unset, .unset, .unset, .unset] [(.int (-1 : Int32)), (.int (1 : Int32))]))) (fun t_ kont => XS.iconst X262.here hx rfl (hb hby at_40) kont) ?_
      refine own_bk (S' := (T258.setTop (mkF m 44 #[iv v0, iv (1 : Int32), iv (1 : Int32), iv (1 : Int32), iv (0 : Int32), iv (0 : Int32), .unset, .unset, .unset, .unset] []))) (fun t_ kont => XS.icmpNo X262.here hx rfl (hb hby at_41) rfl (feq (by decide : ¬ ((1 : Int32)) = ((-1 : Int32)))).1 kont) ?_
      refine own_bk (S' := (T258.setTop (mkF m 45 #[iv v0, iv (1 : Int32), iv (1 : Int32), iv (1 : Int32), iv (0 : Int32), iv (0 : Int32), .unset, .unset, .unset, .unset] [(.int (1 : Int32))]))) (fun t_ kont => XS.iconst X262.here hx rfl (hb hby at_44) kont) ?_
      refine own_bk (S' := (T258.setTop (mkF m 49 #[iv v0, iv (1 : Int32), iv (1 : Int32), iv (1 : Int32), iv (0 : Int32), iv (0 : Int32), .unset, .unset, .unset, .unset] [(.int (1 : Int32))]))) (fun t_ kont => XS.goto X262.here hx rfl (pc0 := 45) (pc' := 49) rfl (hb hby at_45) (by decide) (by decide) kont) ?_
      refine own_bk (S' := (T258.setTop (mkF m 51 #[iv v0, iv (1 : Int32), iv (1 : Int32), iv (1 : Int32), iv (0 : Int32), iv (0 : Int32), iv (1 : Int32), .unset, .unset, .unset] []))) (fun t_ kont => XS.istore X262.here hx rfl (hb hby at_49) rfl (l' := #[iv v0, iv (1 : Int32), iv (1 : Int32), iv (1 : Int32), iv (0 : Int32), iv (0 : Int32), iv (1 : Int32), .unset, .unset, .unset]) rfl kont) ?_
      refine own_bk (S' := (T258.setTop (mkF m 52 #[iv v0, iv (1 : Int32), iv (1 : Int32), iv (1 : Int32), iv (0 : Int32), iv (0 : Int32), iv (1 : Int32), .unset, .unset, .unset] [(.int (1 : Int32))]))) (fun t_ kont => XS.iloadN X262.here hx rfl (hb hby at_51) rfl kont) ?_
      refine own_bk (S' := (T258.setTop (mkF m 53 #[iv v0, iv (1 : Int32), iv (1 : Int32), iv (1 : Int32), iv (0 : Int32), iv (0 : Int32), iv (1 : Int32), .unset, .unset, .unset] [(.int (1 : Int32)), (.int (1 : Int32))]))) (fun t_ kont => XS.iconst X262.here hx rfl (hb hby at_52) kont) ?_
      refine own_bk (S' := (T258.setTop (mkF m 56 #[iv v0, iv (1 : Int32), iv (1 : Int32), iv (1 : Int32), iv (0 : Int32), iv (0 : Int32), iv (1 : Int32), .unset, .unset, .unset] []))) (fun t_ kont => XS.icmpNo X262.here hx rfl (hb hby at_53) rfl (teq (by decide : ((1 : Int32)) = ((1 : Int32)))).2 kont) ?_
      refine own_bk (S' := (T258.setTop (mkF m 57 #[iv v0, iv (1 : Int32), iv (1 : Int32), iv (1 : Int32), iv (0 : Int32), iv (0 : Int32), iv (1 : Int32), .unset, .unset, .unset] [(.int (1 : Int32))]))) (fun t_ kont => XS.iconst X262.here hx rfl (hb hby at_56) kont) ?_
      refine own_bk (S' := (T258.setTop (mkF m 61 #[iv v0, iv (1 : Int32), iv (1 : Int32), iv (1 : Int32), iv (0 : Int32), iv (0 : Int32), iv (1 : Int32), .unset, .unset, .unset] [(.int (1 : Int32))]))) (fun t_ kont => XS.goto X262.here hx rfl (pc0 := 57) (pc' := 61) rfl (hb hby at_57) (by decide) (by decide) kont) ?_
      refine own_bk (S' := (T258.setTop (mkF m 63 #[iv v0, iv (1 : Int32), iv (1 : Int32), iv (1 : Int32), iv (0 : Int32), iv (0 : Int32), iv (1 : Int32), iv (1 : Int32), .unset, .unset] []))) (fun t_ kont => XS.istore X262.here hx rfl (hb hby at_61) rfl (l' := #[iv v0, iv (1 : Int32), iv (1 : Int32), iv (1 : Int32), iv (0 : Int32), iv (0 : Int32), iv (1 : Int32), iv (1 : Int32), .unset, .unset]) rfl kont) ?_
      refine own_bk (S' := (T258.setTop (mkF m 64 #[iv v0, iv (1 : Int32), iv (1 : Int32), iv (1 : Int32), iv (0 : Int32), iv (0 : Int32), iv (1 : Int32), iv (1 : Int32), .unset, .unset] [(.int (1 : Int32))]))) (fun t_ kont => XS.iloadN X262.here hx rfl (hb hby at_63) rfl kont) ?_
      refine own_bk (S' := (T258.setTop (mkF m 65 #[iv v0, iv (1 : Int32), iv (1 : Int32), iv (1 : Int32), iv (0 : Int32), iv (0 : Int32), iv (1 : Int32), iv (1 : Int32), .unset, .unset] [(.int (1 : Int32)), (.int (1 : Int32))]))) (fun t_ kont => XS.iconst X262.here hx rfl (hb hby at_64) kont) ?_
      refine own_bk (S' := (T258.setTop (mkF m 72 #[iv v0, iv (1 : Int32), iv (1 : Int32), iv (1 : Int32), iv (0 : Int32), iv (0 : Int32), iv (1 : Int32), iv (1 : Int32), .unset, .unset] []))) (fun t_ kont => XS.icmpYes X262.here hx rfl (pc0 := 65) (pc' := 72) rfl (hb hby at_65) rfl (teq (by decide : ((1 : Int32)) = ((1 : Int32)))).1 (by decide) (by decide) kont) ?_
      refine own_bk (S' := (T258.setTop (mkF m 73 #[iv v0, iv (1 : Int32), iv (1 : Int32), iv (1 : Int32), iv (0 : Int32), iv (0 : Int32), iv (1 : Int32), iv (1 : Int32), .unset, .unset] [(.int (0 : Int32))]))) (fun t_ kont => XS.iconst X262.here hx rfl (hb hby at_72) kont) ?_
      refine own_bk (S' := (T258.setTop (mkF m 75 #[iv v0, iv (1 : Int32), iv (1 : Int32), iv (1 : Int32), iv (0 : Int32), iv (0 : Int32), iv (1 : Int32), iv (1 : Int32), iv (0 : Int32), .unset] []))) (fun t_ kont => XS.istore X262.here hx rfl (hb hby at_73) rfl (l' := #[iv v0, iv (1 : Int32), iv (1 : Int32), iv (1 : Int32), iv (0 : Int32), iv (0 : Int32), iv (1 : Int32), iv (1 : Int32), iv (0 : Int32), .unset]) rfl kont) ?_
      refine own_bk (S' := (T258.setTop (mkF m 76 #[iv v0, iv (1 : Int32), iv (1 : Int32), iv (1 : Int32), iv (0 : Int32), iv (0 : Int32), iv (1 : Int32), iv (1 : Int32), iv (0 : Int32), .unset] [(.int (1 : Int32))]))) (fun t_ kont => XS.iloadN X262.here hx rfl (hb hby at_75) rfl kont) ?_
      refine own_bk (S' := (T258.setTop (mkF m 77 #[iv v0, iv (1 : Int32), iv (1 : Int32), iv (1 : Int32), iv (0 : Int32), iv (0 : Int32), iv (1 : Int32), iv (1 : Int32), iv (0 : Int32), .unset] [(.int (-1 : Int32)), (.int (1 : Int32))]))) (fun t_ kont => XS.iconst X262.here hx rfl (hb hby at_76) kont) ?_
      refine own_bk (S' := (T258.setTop (mkF m 84 #[iv v0, iv (1 : Int32), iv (1 : Int32), iv (1 : Int32), iv (0 : Int32), iv (0 : Int32), iv (1 : Int32), iv (1 : Int32), iv (0 : Int32), .unset] []))) (fun t_ kont => XS.icmpYes X262.here hx rfl (pc0 := 77) (pc' := 84) rfl (hb hby at_77) rfl (feq (by decide : ¬ ((1 : Int32)) = ((-1 : Int32)))).2 (by decide) (by decide) kont) ?_
      refine own_bk (S' := (T258.setTop (mkF m 85 #[iv v0, iv (1 : Int32), iv (1 : Int32), iv (1 : Int32), iv (0 : Int32), iv (0 : Int32), iv (1 : Int32), iv (1 : Int32), iv (0 : Int32), .unset] [(.int (0 : Int32))]))) (fun t_ kont => XS.iconst X262.here hx rfl (hb hby at_84) kont) ?_
      refine own_bk (S' := (T258.setTop (mkF m 87 #[iv v0, iv (1 : Int32), iv (1 : Int32), iv (1 : Int32), iv (0 : Int32), iv (0 : Int32), iv (1 : Int32), iv (1 : Int32), iv (0 : Int32), iv (0 : Int32)] []))) (fun t_ kont => XS.istore X262.here hx rfl (hb hby at_85) rfl (l' := #[iv v0, iv (1 : Int32), iv (1 : Int32), iv (1 : Int32), iv (0 : Int32), iv (0 : Int32), iv (1 : Int32), iv (1 : Int32), iv (0 : Int32), iv (0 : Int32)]) rfl kont) ?_
      refine own_bk (S' := (T258.setTop (mkF m 88 #[iv v0, iv (1 : Int32), iv (1 : Int32), iv (1 : Int32), iv (0 : Int32), iv (0 : Int32), iv (1 : Int32), iv (1 : Int32), iv (0 : Int32), iv (0 : Int32)] [(.int (1 : Int32))]))) (fun t_ kont => XS.iloadN X262.here hx rfl (hb hby at_87) rfl kont) ?_
      refine own_bk (S' := (T258.setTop (mkF m 90 #[iv v0, iv (1 : Int32), iv (1 : Int32), iv (1 : Int32), iv (0 : Int32), iv (0 : Int32), iv (1 : Int32), iv (1 : Int32), iv (0 : Int32), iv (0 : Int32)] [(.int (1 : Int32)), (.int (1 : Int32))]))) (fun t_ kont => XS.iload X262.here hx rfl (hb hby at_88) rfl kont) ?_
      refine own_bk (S' := (T258.setTop (mkF m 93 #[iv v0, iv (1 : Int32), iv (1 : Int32), iv (1 : Int32), iv (0 : Int32), iv (0 : Int32), iv (1 : Int32), iv (1 : Int32), iv (0 : Int32), iv (0 : Int32)] []))) (fun t_ kont => XS.icmpNo X262.here hx rfl (hb hby at_90) rfl (teq (by decide : ((1 : Int32)) = ((1 : Int32)))).2 kont) ?_
      refine own_bk (S' := (T258.setTop (mkF m 94 #[iv v0, iv (1 : Int32), iv (1 : Int32), iv (1 : Int32), iv (0 : Int32), iv (0 : Int32), iv (1 : Int32), iv (1 : Int32), iv (0 : Int32), iv (0 : Int32)] [(.int (1 : Int32))]))) (fun t_ kont => XS.iloadN X262.here hx rfl (hb hby at_93) rfl kont) ?_
      refine own_bk (S' := (T258.setTop (mkF m 96 #[iv v0, iv (1 : Int32), iv (1 : Int32), iv (1 : Int32), iv (0 : Int32), iv (0 : Int32), iv (1 : Int32), iv (1 : Int32), iv (0 : Int32), iv (0 : Int32)] [(.int (1 : Int32)), (.int (1 : Int32))]))) (fun t_ kont => XS.iload X262.here hx rfl (hb hby at_94) rfl kont) ?_
      refine own_bk (S' := (T258.setTop (mkF m 99 #[iv v0, iv (1 : Int32), iv (1 : Int32), iv (1 : Int32), iv (0 : Int32), iv (0 : Int32), iv (1 : Int32), iv (1 : Int32), iv (0 : Int32), iv (0 : Int32)] []))) (fun t_ kont => XS.icmpNo X262.here hx rfl (hb hby at_96) rfl (teq (by decide : ((1 : Int32)) = ((1 : Int32)))).2 kont) ?_
      refine own_bk (S' := (T258.setTop (mkF m 101 #[iv v0, iv (1 : Int32), iv (1 : Int32), iv (1 : Int32), iv (0 : Int32), iv (0 : Int32), iv (1 : Int32), iv (1 : Int32), iv (0 : Int32), iv (0 : Int32)] [(.int (0 : Int32))]))) (fun t_ kont => XS.iload X262.here hx rfl (hb hby at_99) rfl kont) ?_
      refine own_bk (S' := (T258.setTop (mkF m 103 #[iv v0, iv (1 : Int32), iv (1 : Int32), iv (1 : Int32), iv (0 : Int32), iv (0 : Int32), iv (1 : Int32), iv (1 : Int32), iv (0 : Int32), iv (0 : Int32)] [(.int (0 : Int32)), (.int (0 : Int32))]))) (fun t_ kont => XS.iload X262.here hx rfl (hb hby at_101) rfl kont) ?_
      refine own_bk (S' := (T258.setTop (mkF m 106 #[iv v0, iv (1 : Int32), iv (1 : Int32), iv (1 : Int32), iv (0 : Int32), iv (0 : Int32), iv (1 : Int32), iv (1 : Int32), iv (0 : Int32), iv (0 : Int32)] []))) (fun t_ kont => XS.icmpNo X262.here hx rfl (hb hby at_103) rfl (teq (by decide : ((0 : Int32)) = ((0 : Int32)))).2 kont) ?_
      refine own_bk (S' := (T258.setTop (mkF m 108 #[iv v0, iv (1 : Int32), iv (1 : Int32), iv (1 : Int32), iv (0 : Int32), iv (0 : Int32), iv (1 : Int32), iv (1 : Int32), iv (0 : Int32), iv (0 : Int32)] [(.int (0 : Int32))]))) (fun t_ kont => XS.iload X262.here hx rfl (hb hby at_106) rfl kont) ?_
      refine own_bk (S' := (T258.setTop (mkF m 110 #[iv v0, iv (1 : Int32), iv (1 : Int32), iv (1 : Int32), iv (0 : Int32), iv (0 : Int32), iv (1 : Int32), iv (1 : Int32), iv (0 : Int32), iv (0 : Int32)] [(.int (0 : Int32)), (.int (0 : Int32))]))) (fun t_ kont => XS.iload X262.here hx rfl (hb hby at_108) rfl kont) ?_
      refine own_bk (S' := (T258.setTop (mkF m 113 #[iv v0, iv (1 : Int32), iv (1 : Int32), iv (1 : Int32), iv (0 : Int32), iv (0 : Int32), iv (1 : Int32), iv (1 : Int32), iv (0 : Int32), iv (0 : Int32)] []))) (fun t_ kont => XS.icmpNo X262.here hx rfl (hb hby at_110) rfl (teq (by decide : ((0 : Int32)) = ((0 : Int32)))).2 kont) ?_
      refine own_bk (S' := (T258.setTop (mkF m 114 #[iv v0, iv (1 : Int32), iv (1 : Int32), iv (1 : Int32), iv (0 : Int32), iv (0 : Int32), iv (1 : Int32), iv (1 : Int32), iv (0 : Int32), iv (0 : Int32)] [(.int (1 : Int32))]))) (fun t_ kont => XS.iconst X262.here hx rfl (hb hby at_113) kont) ?_
      refine own_bk (S' := (T258.setTop (mkF m 118 #[iv v0, iv (1 : Int32), iv (1 : Int32), iv (1 : Int32), iv (0 : Int32), iv (0 : Int32), iv (1 : Int32), iv (1 : Int32), iv (0 : Int32), iv (0 : Int32)] [(.int (1 : Int32))]))) (fun t_ kont => XS.goto X262.here hx rfl (pc0 := 114) (pc' := 118) rfl (hb hby at_114) (by decide) (by decide) kont) ?_
      exact own_retN X262 hx hlk (t := .boolean) (w := (1 : Int32)) Bd.returns (by simp) (hb hby at_118) rfl ⟨rfl, N272⟩ (by decide) (by decide)
set_option maxRecDepth 65536 in
set_option maxHeartbeats 40000000 in
theorem comes_1 {Post : Tables → Env → Array Value → State → Outcome → State → Prop} (hpost : ∀ tb e args s v u, (limb_1_1.after args s (.returned v) u = true ∧ limb_1_2.after args s (.returned v) u = true ∧ True) → FrameEnd s (.returned v) u (Jvm.fieldLocs frame_1_writes args s ++ Jvm.arrayLocs frame_1_arrays args s ++ Jvm.staticLocs frame_1_statics s) 0 0 → Post tb e args s (.returned v) u) :
    ArmFor flags0 classFile x code maxLocals ret World_1 tables_1 room_1 Calls_1 rest_1 Pre_1 Post := by
  intro l hfl _ _ p e ha hc hk s m args below hf hA hF happ hP
  obtain ⟨hcalls, hrest, hpre⟩ := hP
  obtain ⟨-, -, -, hnamed, -, -, -, hat⟩ := (Spec.applies_iff hf).mp happ
  obtain ⟨hg, hn⟩ := and_e (Cond.before_iff.mp (show (Jvm.Cond.and given_1 narrow_1).before args s = true from hpre))
  obtain ⟨g0, hg⟩ := and_e hg
  have g1 := hg
  obtain ⟨w0, rfl⟩ : ∃ w0 : Value, args = #[w0] := by
    have hs : args.size = 1 := by simpa [Cond.value, given_1] using g0
    obtain ⟨L⟩ := args
    match L, hs with
    | [w0], _ => exact ⟨w0, rfl⟩
  have hw := fun d (hd : d ∈ tables_1) => atoms_spec (ws := Jvm.Cond.code x code maxLocals ret :: tables_1) hat d (List.mem_cons_of_mem _ hd)
  have hfit : Fit s := fun {y c} hc i hi => by
    obtain ⟨ha, rfl⟩ := Array.getElem?_eq_some_iff.mp hc
    have q := List.all_eq_true.mp ((Array.all_eq_true_iff_forall_mem.mp hF) _ (Array.getElem_mem ha)) i (List.mem_range.mpr hi)
    simpa [Array.getElem?_eq_getElem hi] using q
  obtain ⟨v0, ev0⟩ := is_v g1
  obtain rfl : w0 = (.int v0) := Option.some.inj ev0
  obtain ⟨c0, hn⟩ := and_e hn
  obtain ⟨c1, hn⟩ := and_e hn
  obtain ⟨c2, hn⟩ := and_e hn
  obtain ⟨c3, hn⟩ := and_e hn
  obtain ⟨c4, hn⟩ := and_e hn
  obtain ⟨c5, hn⟩ := and_e hn
  obtain ⟨c6, hn⟩ := and_e hn
  have c7 := hn
  obtain ⟨r_MIN_INCLUSIVE, ev_MIN_INCLUSIVE⟩ := exa_v c0
  have G_MIN_INCLUSIVE : own_E s s.heap r_MIN_INCLUSIVE "com/example/markupkeel/markupkeel/schema/Facet$Bound$Kind" "MIN_INCLUSIVE" "Lcom/example/markupkeel/markupkeel/schema/Facet$Bound$Kind;" 0 := ⟨Sta.start ev_MIN_INCLUSIVE (Or.inr ⟨(hw _ (List.mem_of_getElem? (i := 5) rfl)), (hw _ (List.mem_of_getElem? (i := 6) rfl))⟩), Exa.start ev_MIN_INCLUSIVE c0, Fld.start (own_fldInt c1 ev_MIN_INCLUSIVE)⟩
  obtain ⟨r_MIN_EXCLUSIVE, ev_MIN_EXCLUSIVE⟩ := exa_v c2
  have G_MIN_EXCLUSIVE : own_E s s.heap r_MIN_EXCLUSIVE "com/example/markupkeel/markupkeel/schema/Facet$Bound$Kind" "MIN_EXCLUSIVE" "Lcom/example/markupkeel/markupkeel/schema/Facet$Bound$Kind;" 1 := ⟨Sta.start ev_MIN_EXCLUSIVE (Or.inr ⟨(hw _ (List.mem_of_getElem? (i := 5) rfl)), (hw _ (List.mem_of_getElem? (i := 22) rfl))⟩), Exa.start ev_MIN_EXCLUSIVE c2, Fld.start (own_fldInt c3 ev_MIN_EXCLUSIVE)⟩
  obtain ⟨r_MAX_INCLUSIVE, ev_MAX_INCLUSIVE⟩ := exa_v c4
  have G_MAX_INCLUSIVE : own_E s s.heap r_MAX_INCLUSIVE "com/example/markupkeel/markupkeel/schema/Facet$Bound$Kind" "MAX_INCLUSIVE" "Lcom/example/markupkeel/markupkeel/schema/Facet$Bound$Kind;" 2 := ⟨Sta.start ev_MAX_INCLUSIVE (Or.inr ⟨(hw _ (List.mem_of_getElem? (i := 5) rfl)), (hw _ (List.mem_of_getElem? (i := 24) rfl))⟩), Exa.start ev_MAX_INCLUSIVE c4, Fld.start (own_fldInt c5 ev_MAX_INCLUSIVE)⟩
  obtain ⟨r_MAX_EXCLUSIVE, ev_MAX_EXCLUSIVE⟩ := exa_v c6
  have G_MAX_EXCLUSIVE : own_E s s.heap r_MAX_EXCLUSIVE "com/example/markupkeel/markupkeel/schema/Facet$Bound$Kind" "MAX_EXCLUSIVE" "Lcom/example/markupkeel/markupkeel/schema/Facet$Bound$Kind;" 3 := ⟨Sta.start ev_MAX_EXCLUSIVE (Or.inr ⟨(hw _ (List.mem_of_getElem? (i := 5) rfl)), (hw _ (List.mem_of_getElem? (i := 26) rfl))⟩), Exa.start ev_MAX_EXCLUSIVE c6, Fld.start (own_fldInt c7 ev_MAX_EXCLUSIVE)⟩
  obtain ⟨n, o, h1, h2, h3, _, L, rfl, ⟨rfl, N⟩, hq⟩ := rm0 l s _ hw tables_1 v0 r_MIN_INCLUSIVE r_MIN_EXCLUSIVE r_MAX_INCLUSIVE r_MAX_EXCLUSIVE s.heap s.heap.size (Nat.le_refl _) G_MIN_INCLUSIVE G_MIN_EXCLUSIVE G_MAX_INCLUSIVE G_MAX_EXCLUSIVE p e ha hc hk s m _ below hf ((Spec.applies_iff_loose hf).mp happ).1 ⟨rfl, State.Warmed39.refl s, rfl⟩ trivial
  refine ⟨n, _, h1, h2, h3, hpost _ _ _ _ _ _ ⟨Cond.after_iff.mpr rfl, Cond.after_iff.mpr (eq_i res_at (Term.int_eval (1)) rfl), trivial⟩ ⟨hq.1, hq.2.1, (hq.2.2.sift fun y hy => Or.inr (N y hy)).mono (by decide) (by decide)⟩⟩
theorem main_1_1 : Claimed_1_1 := comes_1 fun _ _ _ _ _ _ h hF => ⟨h.1, hF⟩
theorem main_1_2 : Claimed_1_2 := comes_1 fun _ _ _ _ _ _ h hF => ⟨h.2.1, hF⟩
end Jvm.Pilot.@@N@@
namespace Jvm.Pilot.@@N@@
open Jvm Jvm.ClassFile Sem Op Lib Jvm.Free Jvm.Stand Jvm.Pilot.@@N@@.Jvm.D
/-! MADE BY PROGRAM (witnessworld.py) out of the Statement's table words and the real class files: 12 classes; the members and pool entries that the words name. The judged class is class 1, her method 2. -/
namespace start1
open Jvm.ClassFile
def u (s : String) : CpInfo := .utf8 (stringToUtf16 s)
/-- a pool by its gaps: so many unusable entries, then the entry; so many at the end -/
def gap : Nat → List CpInfo → List CpInfo
  | 0, r => r
  | n + 1, r => .unusable :: gap n r
def poolList (es : List (Nat × CpInfo)) (last : Nat) : List CpInfo := es.foldr (fun e r => gap e.1 (e.2 :: r)) (gap last [])
def pool (es : List (Nat × CpInfo)) (last : Nat) : Array CpInfo := ⟨poolList es last⟩
def fileOf (pool : Array CpInfo) (this : Nat) (attrs : Array Attribute := #[]) (ms : Array MethodInfo := #[]) (fl : Nat := 33) (sup : Nat := 0) (ifs : Array Nat := #[]) (fds : Array FieldInfo := #[]) : ClassFile where
  minorVersion := 0
  majorVersion := 65
  constantPool := pool
  accessFlags := fl
  thisClass := this
  superClass := sup
  interfaces := ifs
  fields := fds
  methods := ms
  attributes := attrs
def plain (name : String) (sup : Option ClassId) : Class where
  name := name
  kind := .ordinary
  loader := none
  accessFlags := 33
  super := sup
  interfaces := #[]
  cf := none
  fields := #[]
  methods := #[]
  instanceTypes := #[]
  staticTypes := #[]
  resolved := #[]
  callSites := []
  init := .initialized
  statics := none
  mirror := none

def pool0 : Array CpInfo := pool [(5, u "<init>"), (0, u "()V"), (1, .class_ 10), (1, u "java/lang/Object")] 113

def k0m0 : Method := { name := "<init>", desc := "()V", sig := { parameters := [], returnType := none }, accessFlags := 1, code := none }
/-- java/lang/Object -/
def k0 : Class := { plain "java/lang/Object" none with
  accessFlags := 33
  interfaces := #[]
  cf := some (fileOf pool0 8 #[] #[{ accessFlags := 1, nameIndex := 5, descriptorIndex := 6, attributes := #[] }] 33 0 #[] #[])
  fields := #[]
  methods := #[k0m0]
  instanceTypes := #[]
  staticTypes := #[]
  resolved := Array.replicate 124 none
  statics := none }

def pool1 : Array CpInfo := pool [(2, .class_ 4), (1, u "java/lang/Object"), (0, u "<init>"), (0, u "()V"), (0, .methodref 8 9), (0, .class_ 10), (0, .nameAndType 11 12), (0, u "com/example/markupkeel/markupkeel/schema/KindHoldsPinLaw"), (0, u "sign"), (0, u "(I)I"), (0, .fieldref 14 15), (0, .class_ 16), (0, .nameAndType 17 18), (0, u "com/example/markupkeel/markupkeel/schema/Facet$Bound$Kind"), (0, u "MIN_INCLUSIVE"), (0, u "Lcom/example/markupkeel/markupkeel/schema/Facet$Bound$Kind;"), (0, .methodref 14 20), (0, .nameAndType 21 22), (0, u "holds"), (0, u "(I)Z"), (0, .fieldref 14 24), (0, .nameAndType 25 18), (0, u "MIN_EXCLUSIVE"), (0, .fieldref 14 27), (0, .nameAndType 28 18), (0, u "MAX_INCLUSIVE"), (0, .fieldref 14 30), (0, .nameAndType 31 18), (0, u "MAX_EXCLUSIVE"), (3, u "law")] 9

def k1m0 : Method := { name := "<init>", desc := "()V", sig := { parameters := [], returnType := none }, accessFlags := 2, code := none }
def k1c1 : Code := { maxStack := 1, maxLocals := 1, code := method_2_code, exceptionTable := #[], attributes := #[] }
def k1m1 : Method := { name := "sign", desc := "(I)I", sig := { parameters := [.int], returnType := some .int }, accessFlags := 10, code := some k1c1 }
def k1c2 : Code := { maxStack := 2, maxLocals := 10, code := code, exceptionTable := #[], attributes := #[] }
def k1m2 : Method := { name := "law", desc := "(I)Z", sig := { parameters := [.int], returnType := some .boolean }, accessFlags := 9, code := some k1c2 }
/-- com/example/markupkeel/markupkeel/schema/KindHoldsPinLaw -/
def k1 : Class := { plain "com/example/markupkeel/markupkeel/schema/KindHoldsPinLaw" (some 0) with
  accessFlags := 49
  interfaces := #[]
  cf := some (fileOf pool1 8 #[] #[{ accessFlags := 2, nameIndex := 5, descriptorIndex := 6, attributes := #[] }, { accessFlags := 10, nameIndex := 11, descriptorIndex := 12, attributes := #[] }, { accessFlags := 9, nameIndex := 35, descriptorIndex := 22, attributes := #[] }] 49 2 #[] #[])
  fields := #[]
  methods := #[k1m0, k1m1, k1m2]
  instanceTypes := #[]
  staticTypes := #[]
  resolved := Array.replicate 45 none
  statics := none }

def pool2 : Array CpInfo := pool [(1, .class_ 2), (0, u "java/lang/constant/Constable"), (0, .class_ 4), (0, u "java/lang/Object")] 6

/-- java/lang/constant/Constable -/
def k2 : Class := { plain "java/lang/constant/Constable" (some 0) with
  accessFlags := 1537
  interfaces := #[]
  cf := some (fileOf pool2 1 #[] #[] 1537 3 #[] #[])
  fields := #[]
  methods := #[]
  instanceTypes := #[]
  staticTypes := #[]
  resolved := Array.replicate 11 none
  statics := none }

def pool3 : Array CpInfo := pool [(1, .class_ 2), (0, u "java/lang/Comparable"), (0, .class_ 4), (0, u "java/lang/Object")] 7

/-- java/lang/Comparable -/
def k3 : Class := { plain "java/lang/Comparable" (some 0) with
  accessFlags := 1537
  interfaces := #[]
  cf := some (fileOf pool3 1 #[] #[] 1537 3 #[] #[])
  fields := #[]
  methods := #[]
  instanceTypes := #[]
  staticTypes := #[]
  resolved := Array.replicate 12 none
  statics := none }

def pool4 : Array CpInfo := pool [(1, .class_ 2), (0, u "java/io/Serializable"), (0, .class_ 4), (0, u "java/lang/Object")] 2

/-- java/io/Serializable -/
def k4 : Class := { plain "java/io/Serializable" (some 0) with
  accessFlags := 1537
  interfaces := #[]
  cf := some (fileOf pool4 1 #[] #[] 1537 3 #[] #[])
  fields := #[]
  methods := #[]
  instanceTypes := #[]
  staticTypes := #[]
  resolved := Array.replicate 7 none
  statics := none }

def pool5 : Array CpInfo := pool [(2, .class_ 4), (1, u "java/lang/Enum"), (0, u "name"), (0, u "Ljava/lang/String;"), (0, .fieldref 2 8), (0, .nameAndType 9 10), (0, u "ordinal"), (0, u "I"), (1, .class_ 14), (1, u "java/lang/Object"), (4, u "hash"), (86, .class_ 108), (1, u "java/lang/Enum$EnumDesc"), (2, .class_ 112), (0, u "java/lang/constant/Constable"), (0, .class_ 114), (0, u "java/lang/Comparable"), (0, .class_ 116), (0, u "java/io/Serializable"), (9, u "()I")] 77

def k5c0 : Code := { maxStack := 1, maxLocals := 1, code := jdk_37_method_2_code, exceptionTable := #[], attributes := #[] }
def k5m0 : Method := { name := "ordinal", desc := "()I", sig := { parameters := [], returnType := some .int }, accessFlags := 17, code := some k5c0 }
/-- java/lang/Enum -/
def k5 : Class := { plain "java/lang/Enum" (some 0) with
  accessFlags := 1057
  interfaces := #[2, 3, 4]
  cf := some (fileOf pool5 2 #[.nestMembers #[106]] #[{ accessFlags := 17, nameIndex := 9, descriptorIndex := 126, attributes := #[] }] 1057 12 #[111, 113, 115] #[{ accessFlags := 18, nameIndex := 5, descriptorIndex := 6, attributes := #[] }, { accessFlags := 18, nameIndex := 9, descriptorIndex := 10, attributes := #[] }, { accessFlags := 2, nameIndex := 19, descriptorIndex := 10, attributes := #[] }])
  fields := #[{ name := "name", type := (.object "java/lang/String"), accessFlags := 18, slot := 0, constantValue := 0 }, { name := "ordinal", type := .int, accessFlags := 18, slot := 1, constantValue := 0 }, { name := "hash", type := .int, accessFlags := 2, slot := 2, constantValue := 0 }]
  methods := #[k5m0]
  instanceTypes := #[(.object "java/lang/String"), .int, .int]
  staticTypes := #[]
  resolved := Array.replicate 204 none
  statics := none }

def pool6 : Array CpInfo := pool [(1, .class_ 2), (0, u "com/example/markupkeel/markupkeel/schema/Facet$Bound$Kind"), (2, u "MIN_INCLUSIVE"), (0, u "Lcom/example/markupkeel/markupkeel/schema/Facet$Bound$Kind;"), (2, u "MIN_EXCLUSIVE"), (2, u "MAX_INCLUSIVE"), (2, u "MAX_EXCLUSIVE"), (2, u "$VALUES"), (0, u "[Lcom/example/markupkeel/markupkeel/schema/Facet$Bound$Kind;"), (6, .class_ 28), (1, u "java/lang/Enum"), (8, u "facet"), (0, u "Ljava/lang/String;"), (2, u "breach"), (9, .class_ 53), (1, u "com/example/markupkeel/markupkeel/schema/Facet"), (2, .methodref 1 57), (0, .nameAndType 58 59), (0, u "ordinal"), (0, u "()I"), (37, u "holds"), (0, u "(I)Z")] 33

def k6c0 : Code := { maxStack := 4, maxLocals := 2, code := prog_61_method_5_code, exceptionTable := #[], attributes := #[] }
def k6m0 : Method := { name := "holds", desc := "(I)Z", sig := { parameters := [.int], returnType := some .boolean }, accessFlags := 0, code := some k6c0 }
/-- com/example/markupkeel/markupkeel/schema/Facet$Bound$Kind -/
def k6 : Class := { plain "com/example/markupkeel/markupkeel/schema/Facet$Bound$Kind" (some 5) with
  accessFlags := 16432
  interfaces := #[]
  cf := some (fileOf pool6 1 #[.nestHost 51] #[{ accessFlags := 0, nameIndex := 97, descriptorIndex := 98, attributes := #[] }] 16432 26 #[] #[{ accessFlags := 16409, nameIndex := 5, descriptorIndex := 6, attributes := #[] }, { accessFlags := 16409, nameIndex := 9, descriptorIndex := 6, attributes := #[] }, { accessFlags := 16409, nameIndex := 12, descriptorIndex := 6, attributes := #[] }, { accessFlags := 16409, nameIndex := 15, descriptorIndex := 6, attributes := #[] }, { accessFlags := 16, nameIndex := 37, descriptorIndex := 38, attributes := #[] }, { accessFlags := 18, nameIndex := 41, descriptorIndex := 38, attributes := #[] }, { accessFlags := 4122, nameIndex := 18, descriptorIndex := 19, attributes := #[] }])
  fields := #[{ name := "MIN_INCLUSIVE", type := (.object "com/example/markupkeel/markupkeel/schema/Facet$Bound$Kind"), accessFlags := 16409, slot := 0, constantValue := 0 }, { name := "MIN_EXCLUSIVE", type := (.object "com/example/markupkeel/markupkeel/schema/Facet$Bound$Kind"), accessFlags := 16409, slot := 1, constantValue := 0 }, { name := "MAX_INCLUSIVE", type := (.object "com/example/markupkeel/markupkeel/schema/Facet$Bound$Kind"), accessFlags := 16409, slot := 2, constantValue := 0 }, { name := "MAX_EXCLUSIVE", type := (.object "com/example/markupkeel/markupkeel/schema/Facet$Bound$Kind"), accessFlags := 16409, slot := 3, constantValue := 0 }, { name := "facet", type := (.object "java/lang/String"), accessFlags := 16, slot := 3, constantValue := 0 }, { name := "breach", type := (.object "java/lang/String"), accessFlags := 18, slot := 4, constantValue := 0 }, { name := "$VALUES", type := (.array (.object "com/example/markupkeel/markupkeel/schema/Facet$Bound$Kind")), accessFlags := 4122, slot := 4, constantValue := 0 }]
  methods := #[k6m0]
  instanceTypes := #[(.object "java/lang/String"), .int, .int, (.object "java/lang/String"), (.object "java/lang/String")]
  staticTypes := #[(.object "com/example/markupkeel/markupkeel/schema/Facet$Bound$Kind"), (.object "com/example/markupkeel/markupkeel/schema/Facet$Bound$Kind"), (.object "com/example/markupkeel/markupkeel/schema/Facet$Bound$Kind"), (.object "com/example/markupkeel/markupkeel/schema/Facet$Bound$Kind"), (.array (.object "com/example/markupkeel/markupkeel/schema/Facet$Bound$Kind"))]
  resolved := Array.replicate 132 none
  statics := some 0 }

def pool7 : Array CpInfo := pool [(1, u "java/lang/Cloneable"), (0, .class_ 1), (0, u "java/lang/Object"), (0, .class_ 3)] 3

/-- java/lang/Cloneable -/
def k7 : Class := { plain "java/lang/Cloneable" (some 0) with
  accessFlags := 1537
  interfaces := #[]
  cf := some (fileOf pool7 2 #[] #[] 1537 4 #[] #[])
  fields := #[]
  methods := #[]
  instanceTypes := #[]
  staticTypes := #[]
  resolved := Array.replicate 8 none
  statics := none }

/-- the primitive byte -/
def k8 : Class := { plain "byte" none with kind := .primitive 'B', accessFlags := 0x411 }
/-- [B -/
def k9 : Class := { plain "[B" (some 0) with kind := .array 8 .byte, interfaces := #[7, 4], accessFlags := 1041 }

/-- the primitive int -/
def k10 : Class := { plain "int" none with kind := .primitive 'I', accessFlags := 0x411 }
/-- [I -/
def k11 : Class := { plain "[I" (some 0) with kind := .array 10 .int, interfaces := #[7, 4], accessFlags := 1041 }

def heap : Heap := #[{ cls := 6, slots := #[.ref 1, .ref 2, .ref 3, .ref 4, .null], vm := .statics 6 },
  { cls := 6, slots := #[.null, .int 0, .int 0, .null, .null], vm := .none },
  { cls := 6, slots := #[.null, .int 1, .int 0, .null, .null], vm := .none },
  { cls := 6, slots := #[.null, .int 2, .int 0, .null, .null], vm := .none },
  { cls := 6, slots := #[.null, .int 3, .int 0, .null, .null], vm := .none }]
def classes : Array Class := #[k0, k1, k2, k3, k4, k5, k6, k7, k8, k9, k10, k11]
def interned : List (Array UInt16 × Addr) := []
def slotsUsed : Nat := 25
def theMethod : MethodId := ⟨1, 2⟩
def args0 : Array Value := #[.int 5]
def aboutOver (below : List Frame) : State where
  vm := { classes := classes, interned := interned.toArray }
  heap := heap
  slotsUsed := slotsUsed
  threads := #[{ frames := .invoking theMethod args0 :: below }]
def below0 : List Frame := [.native { method := ⟨0, 0⟩, args := #[] }]
def about1 : State := aboutOver below0
def p0 : Program := .bare "" "" ""
def e0 : Env := launch0.env 0 0 0
theorem w_frames : about1.frames = Frame.invoking theMethod args0 :: below0 := rfl
set_option maxRecDepth 65536 in
theorem w_args : argsFit about1.vm theMethod args0 = true := by decide +kernel
set_option maxRecDepth 65536 in
theorem w_heap : heapFits about1 = true := by decide +kernel
set_option maxRecDepth 65536 in
theorem w_runnable : about1.curStatus? = some .runnable := by decide +kernel
set_option maxRecDepth 65536 in
theorem w_alone : about1.alone = true := by decide +kernel
set_option maxRecDepth 65536 in
theorem w_named : about1.methodNamed? x = some theMethod := by decide +kernel
set_option maxRecDepth 65536 in
theorem w_hears : about1.hears theMethod below0 = true := by decide +kernel
set_option maxRecDepth 65536 in
theorem w_ripe : about1.ripe theMethod args0 below0 = true := by decide +kernel
theorem w_running : about1.status = .running := rfl
set_option maxRecDepth 65536 in
theorem w_room : about1.hasRoom e0.platform room_1 = true :=
  launch0.hasRoom_least _ room_1 (by decide +kernel) (by decide +kernel) (by decide +kernel) (by decide +kernel) (by decide +kernel) (by decide +kernel)
theorem allAtoms_all (ts : List Jvm.Cond) (a : Array Jvm.Value) (st : Jvm.State) : (allAtoms ts).before a st = ts.all (fun c => c.before a st) := by
  induction ts with
  | nil => rfl
  | cons c t ih =>
    show (Jvm.Cond.and c (allAtoms t)).before a st = _
    rw [Jvm.Cond.before_and, ih, List.all_cons]
def words1 : List Jvm.Cond := Jvm.Cond.code x code maxLocals ret :: tables_1
/-- a 'code' word, met by the world's own term for the bytes: nothing is compared byte by byte -/
theorem code_word {y : MethodName} {bytes : ByteArray} {mx : Nat} {rt : Option FieldType} {a : Array Value} {s : State} {m : MethodId} {meth : Method} {c : Code} (h1 : s.methodNamed? y = some m) (h2 : s.vm.method? m = some meth) (h3 : meth.code = some c) (h4 : c.code = bytes)
    (h5 : (c.maxLocals == mx && c.exceptionTable.isEmpty && decide (c.maxStack ≤ mostOperands) && decide (meth.sig.returnType = rt) && !meth.locks && decide (parseMethodDescriptor y.desc = some meth.sig)) = true) : (Jvm.Cond.code y bytes mx rt).before a s = true := by
  simp only [Bool.and_eq_true, beq_iff_eq, Bool.not_eq_true', decide_eq_true_eq] at h5
  obtain ⟨⟨⟨⟨⟨g1, g2⟩, g3⟩, g4⟩, g5⟩, g6⟩ := h5
  simp [Cond.before, Cond.holds, Cond.value, h1, h2, h3, h4, g1, g2, g3, g4, g5, g6]
def isCode : Jvm.Cond → Bool
  | .code _ _ _ _ => true
  | _ => false
theorem all_split {L : List Jvm.Cond} {P : Jvm.Cond → Bool} (h1 : L.all (fun c => isCode c || P c) = true) (h2 : ∀ c ∈ L.filter isCode, P c = true) : L.all P = true := by
  refine List.all_eq_true.mpr fun c hc => ?_
  have h := List.all_eq_true.mp h1 c hc
  rcases Bool.eq_false_or_eq_true (isCode c) with hi | hi
  · exact h2 c (List.mem_filter.mpr ⟨hc, hi⟩)
  · simpa [hi] using h
set_option maxRecDepth 65536 in
theorem w_c0 : (Jvm.Cond.code x code maxLocals ret).before args0 about1 = true := code_word (m := ⟨1, 2⟩) (meth := k1m2) (c := k1c2) (by decide +kernel) rfl rfl rfl (by decide +kernel)
set_option maxRecDepth 65536 in
theorem w_c1 : (Jvm.Cond.code ({ cls := "com/example/markupkeel/markupkeel/schema/KindHoldsPinLaw", name := "sign", desc := "(I)I" } : Jvm.MethodName) method_2_code (1 : Nat) (Option.some Jvm.ClassFile.FieldType.int)).before args0 about1 = true := code_word (m := ⟨1, 1⟩) (meth := k1m1) (c := k1c1) (by decide +kernel) rfl rfl rfl (by decide +kernel)
set_option maxRecDepth 65536 in
theorem w_c2 : (Jvm.Cond.code ({ cls := "com/example/markupkeel/markupkeel/schema/Facet$Bound$Kind", name := "holds", desc := "(I)Z" } : Jvm.MethodName) prog_61_method_5_code (2 : Nat) (Option.some Jvm.ClassFile.FieldType.boolean)).before args0 about1 = true := code_word (m := ⟨6, 0⟩) (meth := k6m0) (c := k6c0) (by decide +kernel) rfl rfl rfl (by decide +kernel)
set_option maxRecDepth 65536 in
theorem w_c3 : (Jvm.Cond.code ({ cls := "java/lang/Enum", name := "ordinal", desc := "()I" } : Jvm.MethodName) jdk_37_method_2_code (1 : Nat) (Option.some Jvm.ClassFile.FieldType.int)).before args0 about1 = true := code_word (m := ⟨5, 0⟩) (meth := k5m0) (c := k5c0) (by decide +kernel) rfl rfl rfl (by decide +kernel)
def codes1 : List Jvm.Cond := [Jvm.Cond.code x code maxLocals ret, Jvm.Cond.code ({ cls := "com/example/markupkeel/markupkeel/schema/KindHoldsPinLaw", name := "sign", desc := "(I)I" } : Jvm.MethodName) method_2_code (1 : Nat) (Option.some Jvm.ClassFile.FieldType.int), Jvm.Cond.code ({ cls := "com/example/markupkeel/markupkeel/schema/Facet$Bound$Kind", name := "holds", desc := "(I)Z" } : Jvm.MethodName) prog_61_method_5_code (2 : Nat) (Option.some Jvm.ClassFile.FieldType.boolean), Jvm.Cond.code ({ cls := "java/lang/Enum", name := "ordinal", desc := "()I" } : Jvm.MethodName) jdk_37_method_2_code (1 : Nat) (Option.some Jvm.ClassFile.FieldType.int)]
set_option maxRecDepth 65536 in
theorem codes_eq : words1.filter isCode = codes1 := rfl
theorem w_codes : ∀ c ∈ words1.filter isCode, c.before args0 about1 = true := by
  rw [codes_eq]
  intro c hc
  simp only [codes1, List.mem_cons, List.not_mem_nil, or_false] at hc
  rcases hc with rfl | rfl | rfl | rfl
  · exact w_c0
  · exact w_c1
  · exact w_c2
  · exact w_c3
set_option maxRecDepth 65536 in
theorem w_t1 : (words1.take 24).all (fun c => isCode c || c.before args0 about1) = true := by decide +kernel
set_option maxRecDepth 65536 in
theorem w_t2 : (words1.drop 24).all (fun c => isCode c || c.before args0 about1) = true := by decide +kernel
theorem w_tables : (allAtoms (Jvm.Cond.code x code maxLocals ret :: tables_1)).before args0 about1 = true := by
  rw [allAtoms_all]
  show words1.all (fun c => c.before args0 about1) = true
  refine all_split ?_ w_codes
  rw [← List.take_append_drop 24 words1, List.all_append, w_t1, w_t2]
  rfl
set_option maxRecDepth 65536 in
theorem w_case : (Jvm.Cond.and given_1 narrow_1).before args0 about1 = true := by decide +kernel
theorem w_applies : (headSpec (Jvm.Cond.code x code maxLocals ret :: tables_1) room_1).applies x e0.platform about1 = true :=
  (Spec.applies_iff w_frames).mpr ⟨w_running, w_runnable, w_alone, w_named, w_hears, w_ripe, w_room, w_tables⟩
theorem atStart : AtStart classFile x code maxLocals ret World_1 tables_1 room_1 Calls_1 rest_1 Pre_1 launch0 p0 e0 about1 theMethod args0 below0 :=
  ⟨lists_1, trivial, launch0.admits_env _ _ _, launch0.least_env, fairChoices_fair.cas, fairChoices_fair.clock, w_frames, w_args, w_heap, w_applies, trivial, trivial, w_case⟩
end start1
theorem witness_1 : WitnessClaimed_1 := ⟨start1.p0, start1.e0, start1.about1, start1.theMethod, start1.args0, start1.below0, start1.atStart⟩
end Jvm.Pilot.@@N@@
