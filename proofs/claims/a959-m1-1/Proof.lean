import JvmDerived
import JvmDerived.Pilot.@@N@@Statement
import JvmDerived.Pilot.@@N@@Code
set_option linter.unusedVariables false
set_option linter.unusedSimpArgs false
namespace Jvm.RoadKit
open Sem ClassFile Op Lib Jvm.Stand Jvm.Free Jvm.LawKit
section New
variable {p : Program} {l : Launch} {e : Env} {R : Room} {s : State} {m : MethodId} {args : Array Value} {below : List Frame} {meth : Method} {c : Code} {T : State} {locs : List Loc} {cells slots : Nat}
theorem retI (X : Stand p l e R s m args below meth c T locs cells slots) (hx : p.tables.exec = Jvm.exec) {pc : Nat} {Ls : Array Slot} {z : Int32} {rest : List Value} (hret : meth.sig.returnType = some .int) (hd : decode c.code pc = .ok (.ireturn, 1)) {fs : List Frame}
    (hl : ∀ (f : JFrame) (acts : List Action), f.method = m → f.locked = none → f.entered = [] → (doReturn e (T.setTop f) acts (some (.int z))).1 = T.setFrames fs) : Steps p.tables e below (T.setTop (mkF m pc Ls (.int z :: rest))) (T.setFrames fs) := by
  have hm' : T.vm.method? m = some meth := X.method'
  have hn : narrow .int (.int z) = .int z := rfl
  show Steps p.tables e below (T.setTop { method := m, pc := pc, locals := Ls, stack := _ :: rest, locked := none }) _
  jvm_step X.here [X.here.top, hx, hd, hm', hret, hn]
  first | (intro acts; rw [hl _ acts rfl rfl rfl]) | rw [hl _ _ rfl rfl rfl]
  exact Steps.refl _
end New
end Jvm.RoadKit
namespace Jvm.Pilot.@@N@@
open Jvm Jvm.ClassFile Sem Op Lib Jvm.Free Jvm.Stand Jvm.LawKit Jvm.RoadKit Bundle Jvm.Pilot.@@N@@.Jvm.D
def own_R (s : State) (below : List Frame) (Q : Option Value → Heap → List Loc → Prop) (rc rs : Nat) (t : State) (o : Outcome) : Prop := t.status = .running ∧ Ended t below o ∧ ∃ v L, o = .returned v ∧ Q v t.heap L ∧ FrameEnd s o t L rc rs
def own_RW (s : State) (below : List Frame) (Q : Option Value → Heap → List Loc → Prop) (rc rs : Nat) (t : State) (o : Outcome) : Prop := t.status = .running ∧ Ended t below o ∧ ∃ v L, o = .returned v ∧ Q v t.heap L ∧ ReturnedEndW s o t L rc rs
def own_Go (p : Program) (e : Env) (below : List Frame) (Rr : State → Outcome → Prop) (S : State) : Prop := ∃ t o, Steps p.tables e below S t ∧ Rr t o
section OwnGo
variable {p : Program} {l : Launch} {e : Env} {R : Room} {s : State} {m : MethodId} {args : Array Value} {below : List Frame} {meth : Method} {c : Code} {T : State} {locs : List Loc} {cells slots : Nat} {Q : Option Value → Heap → List Loc → Prop} {rc rs : Nat} {S S' : State} {Rr : State → Outcome → Prop}
theorem own_bk (st : ∀ t, Steps p.tables e below S' t → Steps p.tables e below S t) (k : own_Go p e below Rr S') : own_Go p e below Rr S := by
  obtain ⟨t, o, h1, h2⟩ := k; exact ⟨t, o, st t h1, h2⟩
theorem own_seg (f : own_Go p e below Rr S' → own_Go p e below Rr S) (k : own_Go p e below Rr S') : own_Go p e below Rr S := f k
theorem own_tr (st : Steps p.tables e below S S') (k : own_Go p e below Rr S') : own_Go p e below Rr S := own_bk (fun t k => st.trans k) k
theorem own_retN (X : Stand p l e R s m args below meth c T locs cells slots) (hx : p.tables.exec = Jvm.exec) (hlk : meth.locks = false) {pc : Nat} {Ls : Array Slot} {z w : Int32} {t : FieldType} {rest : List Value} (hret : meth.sig.returnType = some t) (ht : t = .boolean ∨ t = .byte ∨ t = .char ∨ t = .short) (hd : decode c.code pc = .ok (.ireturn, 1)) (hz : nar t z = w)
    (hQ : Q (some (.int w)) T.heap locs) (hc : cells ≤ rc) (hs : slots ≤ rs) : own_Go p e below (own_R s below Q rc rs) (T.setTop (mkF m pc Ls (.int z :: rest))) := by
  subst hz
  obtain ⟨fs, hr, hrun, hended, hW, hsame⟩ := X.leave (v := some (.int (nar t z))) (fun h => by rw [hret] at h; cases h) hlk
  exact ⟨_, _, retN X hx hret ht hd hr, hrun, hended, _, _, rfl, hQ, ⟨_, rfl⟩, hW, hsame.mono hc hs⟩
theorem own_retNW {vm1 : Vm} {n1 : Nat} (hS : s.Since vm1 n1) (X : Stand p l e R (s.setVm vm1) m args below meth c T locs cells slots) (hn1 : n1 ≤ T.heap.size) (hx : p.tables.exec = Jvm.exec) (hlk : meth.locks = false) {pc : Nat} {Ls : Array Slot} {z w : Int32} {t : FieldType} {rest : List Value} (hret : meth.sig.returnType = some t) (ht : t = .boolean ∨ t = .byte ∨ t = .char ∨ t = .short) (hd : decode c.code pc = .ok (.ireturn, 1)) (hz : nar t z = w)
    (hQ : Q (some (.int w)) T.heap locs) (hc : cells ≤ rc) (hs : slots ≤ rs) : own_Go p e below (own_RW s below Q rc rs) (T.setTop (mkF m pc Ls (.int z :: rest))) := by
  subst hz
  obtain ⟨fs, hr, hrun, hended, hE⟩ := X.leaveW hS hn1 (v := some (.int (nar t z))) (fun h => by rw [hret] at h; cases h) hlk
  exact ⟨_, _, retN X hx hret ht hd hr, hrun, hended, _, _, rfl, hQ, hE.1, hE.2.1, hE.2.2.1, hE.2.2.2.mono hc hs⟩
theorem own_retI (X : Stand p l e R s m args below meth c T locs cells slots) (hx : p.tables.exec = Jvm.exec) (hlk : meth.locks = false) {pc : Nat} {Ls : Array Slot} {z : Int32} {rest : List Value} (hret : meth.sig.returnType = some .int) (hd : decode c.code pc = .ok (.ireturn, 1))
    (hQ : Q (some (.int z)) T.heap locs) (hc : cells ≤ rc) (hs : slots ≤ rs) : own_Go p e below (own_R s below Q rc rs) (T.setTop (mkF m pc Ls (.int z :: rest))) := by
  obtain ⟨fs, hr, hrun, hended, hW, hsame⟩ := X.leave (v := some (.int z)) (fun h => by rw [hret] at h; cases h) hlk
  exact ⟨_, _, retI X hx hret hd hr, hrun, hended, _, _, rfl, hQ, ⟨_, rfl⟩, hW, hsame.mono hc hs⟩
theorem own_retIW {vm1 : Vm} {n1 : Nat} (hS : s.Since vm1 n1) (X : Stand p l e R (s.setVm vm1) m args below meth c T locs cells slots) (hn1 : n1 ≤ T.heap.size) (hx : p.tables.exec = Jvm.exec) (hlk : meth.locks = false) {pc : Nat} {Ls : Array Slot} {z : Int32} {rest : List Value} (hret : meth.sig.returnType = some .int) (hd : decode c.code pc = .ok (.ireturn, 1))
    (hQ : Q (some (.int z)) T.heap locs) (hc : cells ≤ rc) (hs : slots ≤ rs) : own_Go p e below (own_RW s below Q rc rs) (T.setTop (mkF m pc Ls (.int z :: rest))) := by
  obtain ⟨fs, hr, hrun, hended, hE⟩ := X.leaveW hS hn1 (v := some (.int z)) (fun h => by rw [hret] at h; cases h) hlk
  exact ⟨_, _, retI X hx hret hd hr, hrun, hended, _, _, rfl, hQ, hE.1, hE.2.1, hE.2.2.1, hE.2.2.2.mono hc hs⟩
theorem own_retJ (X : Stand p l e R s m args below meth c T locs cells slots) (hx : p.tables.exec = Jvm.exec) (hlk : meth.locks = false) {pc : Nat} {Ls : Array Slot} {z : Int64} {rest : List Value} (hret : meth.sig.returnType = some .long) (hd : decode c.code pc = .ok (.lreturn, 1))
    (hQ : Q (some (.long z)) T.heap locs) (hc : cells ≤ rc) (hs : slots ≤ rs) : own_Go p e below (own_R s below Q rc rs) (T.setTop (mkF m pc Ls (.long z :: rest))) := by
  obtain ⟨fs, hr, hrun, hended, hW, hsame⟩ := X.leave (v := some (.long z)) (fun h => by rw [hret] at h; cases h) hlk
  exact ⟨_, _, retOut X hx hret rfl (Or.inr (Or.inl ⟨rfl, rfl, z, rfl⟩)) hd hr, hrun, hended, _, _, rfl, hQ, ⟨_, rfl⟩, hW, hsame.mono hc hs⟩
theorem own_retJW {vm1 : Vm} {n1 : Nat} (hS : s.Since vm1 n1) (X : Stand p l e R (s.setVm vm1) m args below meth c T locs cells slots) (hn1 : n1 ≤ T.heap.size) (hx : p.tables.exec = Jvm.exec) (hlk : meth.locks = false) {pc : Nat} {Ls : Array Slot} {z : Int64} {rest : List Value} (hret : meth.sig.returnType = some .long) (hd : decode c.code pc = .ok (.lreturn, 1))
    (hQ : Q (some (.long z)) T.heap locs) (hc : cells ≤ rc) (hs : slots ≤ rs) : own_Go p e below (own_RW s below Q rc rs) (T.setTop (mkF m pc Ls (.long z :: rest))) := by
  obtain ⟨fs, hr, hrun, hended, hE⟩ := X.leaveW hS hn1 (v := some (.long z)) (fun h => by rw [hret] at h; cases h) hlk
  exact ⟨_, _, retOut X hx hret rfl (Or.inr (Or.inl ⟨rfl, rfl, z, rfl⟩)) hd hr, hrun, hended, _, _, rfl, hQ, hE.1, hE.2.1, hE.2.2.1, hE.2.2.2.mono hc hs⟩
theorem own_retA (X : Stand p l e R s m args below meth c T locs cells slots) (hx : p.tables.exec = Jvm.exec) (hlk : meth.locks = false) {pc : Nat} {Ls : Array Slot} {w : Value} {t : FieldType} {rest : List Value} (hret : meth.sig.returnType = some t) (ht : t.isReference = true) (hw : w.isRef = true) (hn : narrow t w = w) (hd : decode c.code pc = .ok (.areturn, 1))
    (hQ : Q (some w) T.heap locs) (hc : cells ≤ rc) (hs : slots ≤ rs) : own_Go p e below (own_R s below Q rc rs) (T.setTop (mkF m pc Ls (w :: rest))) := by
  obtain ⟨fs, hr, hrun, hended, hW, hsame⟩ := X.leave (v := some w) (fun h => by rw [hret] at h; cases h) hlk
  exact ⟨_, _, retOut X hx hret hn (Or.inr (Or.inr (Or.inr (Or.inr ⟨rfl, ht, hw⟩)))) hd hr, hrun, hended, _, _, rfl, hQ, ⟨_, rfl⟩, hW, hsame.mono hc hs⟩
theorem own_retAW {vm1 : Vm} {n1 : Nat} (hS : s.Since vm1 n1) (X : Stand p l e R (s.setVm vm1) m args below meth c T locs cells slots) (hn1 : n1 ≤ T.heap.size) (hx : p.tables.exec = Jvm.exec) (hlk : meth.locks = false) {pc : Nat} {Ls : Array Slot} {w : Value} {t : FieldType} {rest : List Value} (hret : meth.sig.returnType = some t) (ht : t.isReference = true) (hw : w.isRef = true) (hn : narrow t w = w) (hd : decode c.code pc = .ok (.areturn, 1))
    (hQ : Q (some w) T.heap locs) (hc : cells ≤ rc) (hs : slots ≤ rs) : own_Go p e below (own_RW s below Q rc rs) (T.setTop (mkF m pc Ls (w :: rest))) := by
  obtain ⟨fs, hr, hrun, hended, hE⟩ := X.leaveW hS hn1 (v := some w) (fun h => by rw [hret] at h; cases h) hlk
  exact ⟨_, _, retOut X hx hret hn (Or.inr (Or.inr (Or.inr (Or.inr ⟨rfl, ht, hw⟩)))) hd hr, hrun, hended, _, _, rfl, hQ, hE.1, hE.2.1, hE.2.2.1, hE.2.2.2.mono hc hs⟩
theorem own_retV (X : Stand p l e R s m args below meth c T locs cells slots) (hx : p.tables.exec = Jvm.exec) (hlk : meth.locks = false) {pc : Nat} {Ls : Array Slot} (hret : meth.sig.returnType = none) (hd : decode c.code pc = .ok (.return_, 1))
    (hQ : Q none T.heap locs) (hc : cells ≤ rc) (hs : slots ≤ rs) : own_Go p e below (own_R s below Q rc rs) (T.setTop (mkF m pc Ls [])) := by
  obtain ⟨fs, hr, hrun, hended, hW, hsame⟩ := X.leave (v := none) (fun _ => rfl) hlk
  exact ⟨_, _, X.returnOut hx hret hd hr, hrun, hended, _, _, rfl, hQ, ⟨_, rfl⟩, hW, hsame.mono hc hs⟩
theorem own_retVW {vm1 : Vm} {n1 : Nat} (hS : s.Since vm1 n1) (X : Stand p l e R (s.setVm vm1) m args below meth c T locs cells slots) (hn1 : n1 ≤ T.heap.size) (hx : p.tables.exec = Jvm.exec) (hlk : meth.locks = false) {pc : Nat} {Ls : Array Slot} (hret : meth.sig.returnType = none) (hd : decode c.code pc = .ok (.return_, 1))
    (hQ : Q none T.heap locs) (hc : cells ≤ rc) (hs : slots ≤ rs) : own_Go p e below (own_RW s below Q rc rs) (T.setTop (mkF m pc Ls [])) := by
  obtain ⟨fs, hr, hrun, hended, hE⟩ := X.leaveW hS hn1 (v := none) (fun _ => rfl) hlk
  exact ⟨_, _, X.returnOut hx hret hd hr, hrun, hended, _, _, rfl, hQ, hE.1, hE.2.1, hE.2.2.1, hE.2.2.2.mono hc hs⟩
end OwnGo
/-- an enum constant of the start: what its static holds, its class, its ordinal -/
def own_E (Z : State) (h : Heap) (r : Addr) (C n d : String) (k : Int32) : Prop := Sta Z h C n d (.ref r) ∧ Exa Z h r C ∧ Fld Z h r "java/lang/Enum" "ordinal" "I" (.int k)
theorem own_E.ext {Z : State} {h h' : Heap} {r : Addr} {C n d : String} {k : Int32} (G : own_E Z h r C n d k) (E : Ext h h') : own_E Z h' r C n d k := ⟨G.1.ext E, G.2.1.ext E, G.2.2.ext E⟩
theorem own_E.ne {Z : State} {h : Heap} {r r' : Addr} {C n d C' n' d' : String} {k k' : Int32} (G : own_E Z h r C n d k) (G' : own_E Z h r' C' n' d' k') (q : k ≠ k') : r ≠ r' := Fld.ne G.2.2 G'.2.2 (fun e => q (Value.int.inj e))
theorem own_fldInt {args : Array Value} {s : State} {t : Term} {C n d : String} {k : Int32} {a : Addr} (h : (Jvm.Cond.eq (.field t C n d) (.int k)).value args s none s [] = some true) (ev : t.eval args s none [] s = some (.ref a)) : s.fieldOf? a C n d = some (.int k) := by
  obtain ⟨x, y, h1, h2, h3, h4⟩ := cmp_v (Or.inl h)
  have h5 : (Term.int k).eval args s none [] s = some (.int k) := Term.int_eval k
  cases h5.symm.trans h2
  obtain ⟨z, rfl⟩ := h4
  have h6 : z = k := gotT (Cond.eq_ints h1 h5) h
  subst h6
  rw [← fld_at ev]; exact h1
theorem own_eq1 {x y : Int32} (h : x = y) : if_icmp.holds .eq x y = true := (teq h).1

theorem d2_0 : decode prog_26_method_4_code 0 = .ok (.aload_n 0, 1) := by decide +kernel
theorem d2_1 : decode prog_26_method_4_code 1 = .ok (.getstatic 13, 3) := by decide +kernel
theorem d2_4 : decode prog_26_method_4_code 4 = .ok (.if_acmp .eq 17, 3) := by decide +kernel
theorem d2_7 : decode prog_26_method_4_code 7 = .ok (.aload_n 0, 1) := by decide +kernel
theorem d2_8 : decode prog_26_method_4_code 8 = .ok (.getstatic 22, 3) := by decide +kernel
theorem d2_11 : decode prog_26_method_4_code 11 = .ok (.if_acmp .eq 10, 3) := by decide +kernel
theorem d2_14 : decode prog_26_method_4_code 14 = .ok (.aload_n 0, 1) := by decide +kernel
theorem d2_15 : decode prog_26_method_4_code 15 = .ok (.getstatic 25, 3) := by decide +kernel
theorem d2_18 : decode prog_26_method_4_code 18 = .ok (.if_acmp .ne 7, 3) := by decide +kernel
theorem d2_21 : decode prog_26_method_4_code 21 = .ok (.iconst 1, 1) := by decide +kernel
theorem d2_22 : decode prog_26_method_4_code 22 = .ok (.goto 4, 3) := by decide +kernel
theorem d2_25 : decode prog_26_method_4_code 25 = .ok (.iconst 0, 1) := by decide +kernel
theorem d2_26 : decode prog_26_method_4_code 26 = .ok (.ireturn, 1) := by decide +kernel
theorem ef_rm2 (m : MethodId) (x0 : Addr) : entryFrame m #[(.ref x0)] 1 = mkF m 0 #[.val (.ref x0)] [] := by first | (simp [entryFrame, mkF, argsToLocals, Value.category, maxLocals]; done) | rfl
def Q_rm2 (Z : State) (a w1 w2 w3 : Addr) (b : Int32) (h0 : Heap) (n0 : Nat) (v : Option Value) (h : Heap) (L : List Loc) : Prop := v = some (.int b) ∧ Fr n0 L ∧ h = h0
set_option maxRecDepth 65536 in
set_option maxHeartbeats 40000000 in
theorem rm2 (l : Launch) (Z : State) (a0 : Array Value) (hw : ∀ d ∈ tables_1, d.before a0 Z = true) (ws : List Jvm.Cond) (a w1 w2 w3 : Addr) (b : Int32) (h0 : Heap) (n0 : Nat) (Z0 : n0 ≤ h0.size) (S1 : Sta Z h0 "com/example/quayside/quayside/PaymentState" "AGREED" "Lcom/example/quayside/quayside/PaymentState;" (.ref w1)) (S2 : Sta Z h0 "com/example/quayside/quayside/PaymentState" "REJECTED" "Lcom/example/quayside/quayside/PaymentState;" (.ref w2)) (S3 : Sta Z h0 "com/example/quayside/quayside/PaymentState" "CANCELLED" "Lcom/example/quayside/quayside/PaymentState;" (.ref w3)) (hv : (if a = w1 ∨ a = w2 ∨ a = w3 then 1 else 0 : Int32) = b) :
    MetFree l (⟨"com/example/quayside/quayside/PaymentState", "isFinal", "()Z"⟩ : MethodName) (head1 (Jvm.Cond.code (⟨"com/example/quayside/quayside/PaymentState", "isFinal", "()Z"⟩ : MethodName) prog_26_method_4_code 1 (some .boolean) :: ws) ({ frames := 0, cells := 0, slots := 0, locals := 0 } : Room)) (fun as_ U_ => as_ = #[(.ref a)] ∧ Z.Warmed39 U_.vm ∧ U_.heap = h0) (fun _ _ _ _ _ => True) (fun _ U_ o_ U2_ => ∃ v_ L_, o_ = .returned v_ ∧ (Q_rm2 Z a w1 w2 w3 b h0 n0) v_ U2_.heap L_ ∧ FrameEnd U_ o_ U2_ L_ ({ frames := 0, cells := 0, slots := 0, locals := 0 } : Room).cells ({ frames := 0, cells := 0, slots := 0, locals := 0 } : Room).slots) := by
  refine MetFree.of_bodySF (plainFor_of_name (by first | (simp [plainName, overriddenIn]; done) | decide +kernel : plainName "com/example/quayside/quayside/PaymentState" = true)) hisR ?_
  intro p e s m args below meth c s₁ Bd hml0 hP hK
  obtain ⟨rfl, hZ, hh⟩ := hP
  have hx := Bd.exec
  have hby := Bd.bytes
  have hlk := Bd.notSynchronized
  have hml : c.maxLocals = 1 := hml0
  have hown : s.vm.findClass "com/example/quayside/quayside/PaymentState" = some m.cls := findClass_of_methodNamed Bd.named
  have hnm := (name_of_methodNamed Bd.named Bd.method).1
  have X0 : Stand p l e ({ frames := 0, cells := 0, slots := 0, locals := 0 } : Room) s m #[(.ref a)] below meth c s₁ [] 0 0 := Stand.of_body Bd
  have e0 : s₁.heap = h0 := by rw [← hh, Bd.state]; rfl
  have N0 := Fr.nil n0
  show own_Go p e below (own_R s below (Q_rm2 Z a w1 w2 w3 b h0 n0) ({ frames := 0, cells := 0, slots := 0, locals := 0 } : Room).cells ({ frames := 0, cells := 0, slots := 0, locals := 0 } : Room).slots) (s₁.setTop (entryFrame m #[(.ref a)] 1))
  refine own_bk (S' := (s₁.setTop (mkF m 0 #[rv a] []))) (fun t_ kont => castTop (ef_rm2 m (a)) kont) ?_
  refine own_bk (S' := (s₁.setTop (mkF m 1 #[rv a] [(.ref a)]))) (fun t_ kont => XS.aloadN X0.here hx rfl (hb hby d2_0) rfl rfl kont) ?_
  obtain ⟨T1, X2, e3, st4⟩ := getS2 X0 hx hZ hown (host := "") (Or.inl (hw _ (List.mem_of_getElem? (i := 13) rfl))) Via.refl e0 S1 (g := (mkF m 1 #[rv a] [(.ref a)])) rfl (hb hby d2_1)
  refine own_bk (S' := (T1.setTop (mkF m 4 #[rv a] [(.ref w1), (.ref a)]))) st4 ?_
  by_cases hc5 : a = w1
  · refine own_bk (S' := (T1.setTop (mkF m 21 #[rv a] []))) (fun t_ kont => Jvm.RoadKit.acmp (g := (mkF m 4 #[rv a] [(.ref w1), (.ref a)])) X2 hx rfl rfl rfl (pc0 := 4) (pc' := 21) (same := true) rfl (hb hby d2_4) rfl (decide_eq_true (congrArg _ hc5)) (by decide) (by decide) kont) ?_
    refine own_bk (S' := (T1.setTop (mkF m 22 #[rv a] [(.int (1 : Int32))]))) (fun t_ kont => XS.iconst X2.here hx rfl (hb hby d2_21) kont) ?_
    refine own_bk (S' := (T1.setTop (mkF m 26 #[rv a] [(.int (1 : Int32))]))) (fun t_ kont => XS.goto X2.here hx rfl (pc0 := 22) (pc' := 26) rfl (hb hby d2_22) (by decide) (by decide) kont) ?_
    exact own_retN X2 hx hlk (t := .boolean) (w := (1 : Int32)) Bd.returns (by simp) (hb hby d2_26) rfl ⟨by rw [← hv]; simp [hc5], N0, e3⟩ (by decide) (by decide)
  · refine own_bk (S' := (T1.setTop (mkF m 7 #[rv a] []))) (fun t_ kont => Jvm.RoadKit.acmp (g := (mkF m 4 #[rv a] [(.ref w1), (.ref a)])) X2 hx rfl rfl rfl (pc0 := 4) (pc' := 7) (same := false) rfl (hb hby d2_4) rfl (decide_eq_false (fun q => hc5 (Value.ref.inj q))) (by decide) (by decide) kont) ?_
    refine own_bk (S' := (T1.setTop (mkF m 8 #[rv a] [(.ref a)]))) (fun t_ kont => XS.aloadN X2.here hx rfl (hb hby d2_7) rfl rfl kont) ?_
    obtain ⟨T6, X7, e8, st9⟩ := getS2 X2 hx hZ hown (host := "") (Or.inl (hw _ (List.mem_of_getElem? (i := 15) rfl))) Via.refl e3 S2 (g := (mkF m 8 #[rv a] [(.ref a)])) rfl (hb hby d2_8)
    refine own_bk (S' := (T6.setTop (mkF m 11 #[rv a] [(.ref w2), (.ref a)]))) st9 ?_
    by_cases hc10 : a = w2
    · refine own_bk (S' := (T6.setTop (mkF m 21 #[rv a] []))) (fun t_ kont => Jvm.RoadKit.acmp (g := (mkF m 11 #[rv a] [(.ref w2), (.ref a)])) X7 hx rfl rfl rfl (pc0 := 11) (pc' := 21) (same := true) rfl (hb hby d2_11) rfl (decide_eq_true (congrArg _ hc10)) (by decide) (by decide) kont) ?_
      refine own_bk (S' := (T6.setTop (mkF m 22 #[rv a] [(.int (1 : Int32))]))) (fun t_ kont => XS.iconst X7.here hx rfl (hb hby d2_21) kont) ?_
      refine own_bk (S' := (T6.setTop (mkF m 26 #[rv a] [(.int (1 : Int32))]))) (fun t_ kont => XS.goto X7.here hx rfl (pc0 := 22) (pc' := 26) rfl (hb hby d2_22) (by decide) (by decide) kont) ?_
      exact own_retN X7 hx hlk (t := .boolean) (w := (1 : Int32)) Bd.returns (by simp) (hb hby d2_26) rfl ⟨by rw [← hv]; simp [hc5, hc10], N0, e8⟩ (by decide) (by decide)
    · refine own_bk (S' := (T6.setTop (mkF m 14 #[rv a] []))) (fun t_ kont => Jvm.RoadKit.acmp (g := (mkF m 11 #[rv a] [(.ref w2), (.ref a)])) X7 hx rfl rfl rfl (pc0 := 11) (pc' := 14) (same := false) rfl (hb hby d2_11) rfl (decide_eq_false (fun q => hc10 (Value.ref.inj q))) (by decide) (by decide) kont) ?_
      refine own_bk (S' := (T6.setTop (mkF m 15 #[rv a] [(.ref a)]))) (fun t_ kont => XS.aloadN X7.here hx rfl (hb hby d2_14) rfl rfl kont) ?_
      obtain ⟨T11, X12, e13, st14⟩ := getS2 X7 hx hZ hown (host := "") (Or.inl (hw _ (List.mem_of_getElem? (i := 17) rfl))) Via.refl e8 S3 (g := (mkF m 15 #[rv a] [(.ref a)])) rfl (hb hby d2_15)
      refine own_bk (S' := (T11.setTop (mkF m 18 #[rv a] [(.ref w3), (.ref a)]))) st14 ?_
      by_cases hc15 : a = w3
      · refine own_bk (S' := (T11.setTop (mkF m 21 #[rv a] []))) (fun t_ kont => Jvm.RoadKit.acmp (g := (mkF m 18 #[rv a] [(.ref w3), (.ref a)])) X12 hx rfl rfl rfl (pc0 := 18) (pc' := 21) (same := true) rfl (hb hby d2_18) rfl (decide_eq_true (congrArg _ hc15)) (by decide) (by decide) kont) ?_
        refine own_bk (S' := (T11.setTop (mkF m 22 #[rv a] [(.int (1 : Int32))]))) (fun t_ kont => XS.iconst X12.here hx rfl (hb hby d2_21) kont) ?_
        refine own_bk (S' := (T11.setTop (mkF m 26 #[rv a] [(.int (1 : Int32))]))) (fun t_ kont => XS.goto X12.here hx rfl (pc0 := 22) (pc' := 26) rfl (hb hby d2_22) (by decide) (by decide) kont) ?_
        exact own_retN X12 hx hlk (t := .boolean) (w := (1 : Int32)) Bd.returns (by simp) (hb hby d2_26) rfl ⟨by rw [← hv]; simp [hc5, hc10, hc15], N0, e13⟩ (by decide) (by decide)
      · refine own_bk (S' := (T11.setTop (mkF m 25 #[rv a] []))) (fun t_ kont => Jvm.RoadKit.acmp (g := (mkF m 18 #[rv a] [(.ref w3), (.ref a)])) X12 hx rfl rfl rfl (pc0 := 18) (pc' := 25) (same := false) rfl (hb hby d2_18) rfl (decide_eq_false (fun q => hc15 (Value.ref.inj q))) (by decide) (by decide) kont) ?_
        refine own_bk (S' := (T11.setTop (mkF m 26 #[rv a] [(.int (0 : Int32))]))) (fun t_ kont => XS.iconst X12.here hx rfl (hb hby d2_25) kont) ?_
        exact own_retN X12 hx hlk (t := .boolean) (w := (0 : Int32)) Bd.returns (by simp) (hb hby d2_26) rfl ⟨by rw [← hv]; simp [hc5, hc10, hc15], N0, e13⟩ (by decide) (by decide)
theorem d1_0 : decode method_2_code 0 = .ok (.iload_n 0, 1) := by decide +kernel
theorem d1_1 : decode method_2_code 1 = .ok (.ifCond .ne 7, 3) := by decide +kernel
theorem d1_4 : decode method_2_code 4 = .ok (.getstatic 7, 3) := by decide +kernel
theorem d1_7 : decode method_2_code 7 = .ok (.areturn, 1) := by decide +kernel
theorem d1_8 : decode method_2_code 8 = .ok (.iload_n 0, 1) := by decide +kernel
theorem d1_9 : decode method_2_code 9 = .ok (.iconst 1, 1) := by decide +kernel
theorem d1_10 : decode method_2_code 10 = .ok (.if_icmp .ne 7, 3) := by decide +kernel
theorem d1_13 : decode method_2_code 13 = .ok (.getstatic 13, 3) := by decide +kernel
theorem d1_16 : decode method_2_code 16 = .ok (.areturn, 1) := by decide +kernel
theorem d1_17 : decode method_2_code 17 = .ok (.iload_n 0, 1) := by decide +kernel
theorem d1_18 : decode method_2_code 18 = .ok (.iconst 2, 1) := by decide +kernel
theorem d1_19 : decode method_2_code 19 = .ok (.if_icmp .ne 7, 3) := by decide +kernel
theorem d1_22 : decode method_2_code 22 = .ok (.getstatic 16, 3) := by decide +kernel
theorem d1_25 : decode method_2_code 25 = .ok (.areturn, 1) := by decide +kernel
theorem d1_26 : decode method_2_code 26 = .ok (.iload_n 0, 1) := by decide +kernel
theorem d1_27 : decode method_2_code 27 = .ok (.iconst 3, 1) := by decide +kernel
theorem d1_28 : decode method_2_code 28 = .ok (.if_icmp .ne 7, 3) := by decide +kernel
theorem d1_31 : decode method_2_code 31 = .ok (.getstatic 19, 3) := by decide +kernel
theorem d1_34 : decode method_2_code 34 = .ok (.areturn, 1) := by decide +kernel
theorem d1_35 : decode method_2_code 35 = .ok (.iload_n 0, 1) := by decide +kernel
theorem d1_36 : decode method_2_code 36 = .ok (.iconst 4, 1) := by decide +kernel
theorem d1_37 : decode method_2_code 37 = .ok (.if_icmp .ne 7, 3) := by decide +kernel
theorem d1_40 : decode method_2_code 40 = .ok (.getstatic 22, 3) := by decide +kernel
theorem d1_43 : decode method_2_code 43 = .ok (.areturn, 1) := by decide +kernel
theorem d1_44 : decode method_2_code 44 = .ok (.iload_n 0, 1) := by decide +kernel
theorem d1_45 : decode method_2_code 45 = .ok (.iconst 5, 1) := by decide +kernel
theorem d1_46 : decode method_2_code 46 = .ok (.if_icmp .ne 7, 3) := by decide +kernel
theorem d1_49 : decode method_2_code 49 = .ok (.getstatic 25, 3) := by decide +kernel
theorem d1_52 : decode method_2_code 52 = .ok (.areturn, 1) := by decide +kernel
theorem d1_53 : decode method_2_code 53 = .ok (.iload_n 0, 1) := by decide +kernel
theorem d1_54 : decode method_2_code 54 = .ok (.bipush 6, 2) := by decide +kernel
theorem d1_56 : decode method_2_code 56 = .ok (.if_icmp .ne 7, 3) := by decide +kernel
theorem d1_59 : decode method_2_code 59 = .ok (.getstatic 28, 3) := by decide +kernel
theorem d1_62 : decode method_2_code 62 = .ok (.areturn, 1) := by decide +kernel
theorem d1_63 : decode method_2_code 63 = .ok (.iload_n 0, 1) := by decide +kernel
theorem d1_64 : decode method_2_code 64 = .ok (.bipush 7, 2) := by decide +kernel
theorem d1_66 : decode method_2_code 66 = .ok (.if_icmp .ne 7, 3) := by decide +kernel
theorem d1_69 : decode method_2_code 69 = .ok (.getstatic 31, 3) := by decide +kernel
theorem d1_72 : decode method_2_code 72 = .ok (.areturn, 1) := by decide +kernel
theorem d1_73 : decode method_2_code 73 = .ok (.iload_n 0, 1) := by decide +kernel
theorem d1_74 : decode method_2_code 74 = .ok (.bipush 8, 2) := by decide +kernel
theorem d1_76 : decode method_2_code 76 = .ok (.if_icmp .ne 7, 3) := by decide +kernel
theorem d1_79 : decode method_2_code 79 = .ok (.getstatic 34, 3) := by decide +kernel
theorem d1_82 : decode method_2_code 82 = .ok (.areturn, 1) := by decide +kernel
theorem d1_83 : decode method_2_code 83 = .ok (.iload_n 0, 1) := by decide +kernel
theorem d1_84 : decode method_2_code 84 = .ok (.bipush 9, 2) := by decide +kernel
theorem d1_86 : decode method_2_code 86 = .ok (.if_icmp .ne 7, 3) := by decide +kernel
theorem d1_89 : decode method_2_code 89 = .ok (.getstatic 37, 3) := by decide +kernel
theorem d1_92 : decode method_2_code 92 = .ok (.areturn, 1) := by decide +kernel
theorem d1_93 : decode method_2_code 93 = .ok (.getstatic 40, 3) := by decide +kernel
theorem d1_96 : decode method_2_code 96 = .ok (.areturn, 1) := by decide +kernel
theorem ef_rm1 (m : MethodId) (x0 : Int32) : entryFrame m #[(.int x0)] 1 = mkF m 0 #[.val (.int x0)] [] := by first | (simp [entryFrame, mkF, argsToLocals, Value.category, maxLocals]; done) | rfl
def Q_rm1 (Z : State) (k : Int32) (r_RECEIVED r_AGREED r_REJECTED r_CANCELLED r_SENT r_DISPUTED r_BROKER_DISPUTED r_ACCEPTED r_ACKNOWLEDGED r_MANAGER_REJECTED r_MANAGER_DISPUTED rv : Addr) (h0 : Heap) (n0 : Nat) (v : Option Value) (h : Heap) (L : List Loc) : Prop := v = some (.ref rv) ∧ Fr n0 L ∧ h = h0
set_option maxRecDepth 65536 in
set_option maxHeartbeats 40000000 in
theorem rm1 (l : Launch) (Z : State) (a0 : Array Value) (hw : ∀ d ∈ tables_1, d.before a0 Z = true) (ws : List Jvm.Cond) (k : Int32) (r_RECEIVED r_AGREED r_REJECTED r_CANCELLED r_SENT r_DISPUTED r_BROKER_DISPUTED r_ACCEPTED r_ACKNOWLEDGED r_MANAGER_REJECTED r_MANAGER_DISPUTED rv : Addr) (h0 : Heap) (n0 : Nat) (Z0 : n0 ≤ h0.size) (G_RECEIVED : own_E Z h0 r_RECEIVED "com/example/quayside/quayside/PaymentState" "RECEIVED" "Lcom/example/quayside/quayside/PaymentState;" 0) (G_AGREED : own_E Z h0 r_AGREED "com/example/quayside/quayside/PaymentState" "AGREED" "Lcom/example/quayside/quayside/PaymentState;" 3) (G_REJECTED : own_E Z h0 r_REJECTED "com/example/quayside/quayside/PaymentState" "REJECTED" "Lcom/example/quayside/quayside/PaymentState;" 6) (G_CANCELLED : own_E Z h0 r_CANCELLED "com/example/quayside/quayside/PaymentState" "CANCELLED" "Lcom/example/quayside/quayside/PaymentState;" 7) (G_SENT : own_E Z h0 r_SENT "com/example/quayside/quayside/PaymentState" "SENT" "Lcom/example/quayside/quayside/PaymentState;" 8) (G_DISPUTED : own_E Z h0 r_DISPUTED "com/example/quayside/quayside/PaymentState" "DISPUTED" "Lcom/example/quayside/quayside/PaymentState;" 2) (G_BROKER_DISPUTED : own_E Z h0 r_BROKER_DISPUTED "com/example/quayside/quayside/PaymentState" "BROKER_DISPUTED" "Lcom/example/quayside/quayside/PaymentState;" 10) (G_ACCEPTED : own_E Z h0 r_ACCEPTED "com/example/quayside/quayside/PaymentState" "ACCEPTED" "Lcom/example/quayside/quayside/PaymentState;" 1) (G_ACKNOWLEDGED : own_E Z h0 r_ACKNOWLEDGED "com/example/quayside/quayside/PaymentState" "ACKNOWLEDGED" "Lcom/example/quayside/quayside/PaymentState;" 9) (G_MANAGER_REJECTED : own_E Z h0 r_MANAGER_REJECTED "com/example/quayside/quayside/PaymentState" "MANAGER_REJECTED" "Lcom/example/quayside/quayside/PaymentState;" 5) (G_MANAGER_DISPUTED : own_E Z h0 r_MANAGER_DISPUTED "com/example/quayside/quayside/PaymentState" "MANAGER_DISPUTED" "Lcom/example/quayside/quayside/PaymentState;" 4) (hv : (if k = 0 then r_RECEIVED else if k = 1 then r_ACCEPTED else if k = 2 then r_DISPUTED else if k = 3 then r_AGREED else if k = 4 then r_MANAGER_DISPUTED else if k = 5 then r_MANAGER_REJECTED else if k = 6 then r_REJECTED else if k = 7 then r_CANCELLED else if k = 8 then r_SENT else if k = 9 then r_ACKNOWLEDGED else r_BROKER_DISPUTED) = rv) :
    MetFree l (⟨"com/example/quayside/quayside/PaymentStateIsFinalPinLaw", "pick", "(I)Lcom/example/quayside/quayside/PaymentState;"⟩ : MethodName) (head1 (Jvm.Cond.code (⟨"com/example/quayside/quayside/PaymentStateIsFinalPinLaw", "pick", "(I)Lcom/example/quayside/quayside/PaymentState;"⟩ : MethodName) method_2_code 1 (some (.object "com/example/quayside/quayside/PaymentState")) :: ws) ({ frames := 0, cells := 0, slots := 0, locals := 0 } : Room)) (fun as_ U_ => as_ = #[(.int k)] ∧ Z.Warmed39 U_.vm ∧ U_.heap = h0) (fun _ _ _ _ _ => True) (fun _ U_ o_ U2_ => ∃ v_ L_, o_ = .returned v_ ∧ (Q_rm1 Z k r_RECEIVED r_AGREED r_REJECTED r_CANCELLED r_SENT r_DISPUTED r_BROKER_DISPUTED r_ACCEPTED r_ACKNOWLEDGED r_MANAGER_REJECTED r_MANAGER_DISPUTED rv h0 n0) v_ U2_.heap L_ ∧ FrameEnd U_ o_ U2_ L_ ({ frames := 0, cells := 0, slots := 0, locals := 0 } : Room).cells ({ frames := 0, cells := 0, slots := 0, locals := 0 } : Room).slots) := by
  refine MetFree.of_bodySF (plainFor_of_name (by first | (simp [plainName, overriddenIn]; done) | decide +kernel : plainName "com/example/quayside/quayside/PaymentStateIsFinalPinLaw" = true)) hisR ?_
  intro p e s m args below meth c s₁ Bd hml0 hP hK
  obtain ⟨rfl, hZ, hh⟩ := hP
  have hx := Bd.exec
  have hby := Bd.bytes
  have hlk := Bd.notSynchronized
  have hml : c.maxLocals = 1 := hml0
  have hown : s.vm.findClass "com/example/quayside/quayside/PaymentStateIsFinalPinLaw" = some m.cls := findClass_of_methodNamed Bd.named
  have hnm := (name_of_methodNamed Bd.named Bd.method).1
  have X0 : Stand p l e ({ frames := 0, cells := 0, slots := 0, locals := 0 } : Room) s m #[(.int k)] below meth c s₁ [] 0 0 := Stand.of_body Bd
  have e0 : s₁.heap = h0 := by rw [← hh, Bd.state]; rfl
  have N0 := Fr.nil n0
  show own_Go p e below (own_R s below (Q_rm1 Z k r_RECEIVED r_AGREED r_REJECTED r_CANCELLED r_SENT r_DISPUTED r_BROKER_DISPUTED r_ACCEPTED r_ACKNOWLEDGED r_MANAGER_REJECTED r_MANAGER_DISPUTED rv h0 n0) ({ frames := 0, cells := 0, slots := 0, locals := 0 } : Room).cells ({ frames := 0, cells := 0, slots := 0, locals := 0 } : Room).slots) (s₁.setTop (entryFrame m #[(.int k)] 1))
  refine own_bk (S' := (s₁.setTop (mkF m 0 #[iv k] []))) (fun t_ kont => castTop (ef_rm1 m (k)) kont) ?_
  refine own_bk (S' := (s₁.setTop (mkF m 1 #[iv k] [(.int k)]))) (fun t_ kont => XS.iloadN X0.here hx rfl (hb hby d1_0) rfl kont) ?_
  by_cases hc1 : (k) = ((0 : Int32))
  · refine own_bk (S' := (s₁.setTop (mkF m 4 #[iv k] []))) (fun t_ kont => XS.ifNo X0.here hx rfl (hb hby d1_1) rfl ((if0 _ _).trans (teq (hc1)).2) kont) ?_
    obtain ⟨T2, X3, e4, st5⟩ := getS2 X0 hx hZ hown (host := "") (Or.inl (hw _ (List.mem_of_getElem? (i := 5) rfl))) Via.refl e0 G_RECEIVED.1 (g := (mkF m 4 #[iv k] [])) rfl (hb hby d1_4)
    refine own_bk (S' := (T2.setTop (mkF m 7 #[iv k] [(.ref r_RECEIVED)]))) st5 ?_
    exact own_retA X3 hx hlk Bd.returns rfl rfl rfl (hb hby d1_7) ⟨by rw [← hv]; simp [hc1], N0, e4⟩ (by decide) (by decide)
  · refine own_bk (S' := (s₁.setTop (mkF m 8 #[iv k] []))) (fun t_ kont => XS.ifYes X0.here hx rfl (pc0 := 1) (pc' := 8) rfl (hb hby d1_1) rfl ((if0 _ _).trans (feq (hc1)).2) (by decide) (by decide) kont) ?_
    refine own_bk (S' := (s₁.setTop (mkF m 9 #[iv k] [(.int k)]))) (fun t_ kont => XS.iloadN X0.here hx rfl (hb hby d1_8) rfl kont) ?_
    refine own_bk (S' := (s₁.setTop (mkF m 10 #[iv k] [(.int (1 : Int32)), (.int k)]))) (fun t_ kont => XS.iconst X0.here hx rfl (hb hby d1_9) kont) ?_
    by_cases hc6 : (k) = ((1 : Int32))
    · refine own_bk (S' := (s₁.setTop (mkF m 13 #[iv k] []))) (fun t_ kont => XS.icmpNo X0.here hx rfl (hb hby d1_10) rfl (teq (hc6)).2 kont) ?_
      obtain ⟨T7, X8, e9, st10⟩ := getS2 X0 hx hZ hown (host := "") (Or.inl (hw _ (List.mem_of_getElem? (i := 27) rfl))) Via.refl e0 G_ACCEPTED.1 (g := (mkF m 13 #[iv k] [])) rfl (hb hby d1_13)
      refine own_bk (S' := (T7.setTop (mkF m 16 #[iv k] [(.ref r_ACCEPTED)]))) st10 ?_
      exact own_retA X8 hx hlk Bd.returns rfl rfl rfl (hb hby d1_16) ⟨by rw [← hv]; simp [hc1, hc6], N0, e9⟩ (by decide) (by decide)
    · refine own_bk (S' := (s₁.setTop (mkF m 17 #[iv k] []))) (fun t_ kont => XS.icmpYes X0.here hx rfl (pc0 := 10) (pc' := 17) rfl (hb hby d1_10) rfl (feq (hc6)).2 (by decide) (by decide) kont) ?_
      refine own_bk (S' := (s₁.setTop (mkF m 18 #[iv k] [(.int k)]))) (fun t_ kont => XS.iloadN X0.here hx rfl (hb hby d1_17) rfl kont) ?_
      refine own_bk (S' := (s₁.setTop (mkF m 19 #[iv k] [(.int (2 : Int32)), (.int k)]))) (fun t_ kont => XS.iconst X0.here hx rfl (hb hby d1_18) kont) ?_
      by_cases hc11 : (k) = ((2 : Int32))
      · refine own_bk (S' := (s₁.setTop (mkF m 22 #[iv k] []))) (fun t_ kont => XS.icmpNo X0.here hx rfl (hb hby d1_19) rfl (teq (hc11)).2 kont) ?_
        obtain ⟨T12, X13, e14, st15⟩ := getS2 X0 hx hZ hown (host := "") (Or.inl (hw _ (List.mem_of_getElem? (i := 23) rfl))) Via.refl e0 G_DISPUTED.1 (g := (mkF m 22 #[iv k] [])) rfl (hb hby d1_22)
        refine own_bk (S' := (T12.setTop (mkF m 25 #[iv k] [(.ref r_DISPUTED)]))) st15 ?_
        exact own_retA X13 hx hlk Bd.returns rfl rfl rfl (hb hby d1_25) ⟨by rw [← hv]; simp [hc1, hc6, hc11], N0, e14⟩ (by decide) (by decide)
      · refine own_bk (S' := (s₁.setTop (mkF m 26 #[iv k] []))) (fun t_ kont => XS.icmpYes X0.here hx rfl (pc0 := 19) (pc' := 26) rfl (hb hby d1_19) rfl (feq (hc11)).2 (by decide) (by decide) kont) ?_
        refine own_bk (S' := (s₁.setTop (mkF m 27 #[iv k] [(.int k)]))) (fun t_ kont => XS.iloadN X0.here hx rfl (hb hby d1_26) rfl kont) ?_
        refine own_bk (S' := (s₁.setTop (mkF m 28 #[iv k] [(.int (3 : Int32)), (.int k)]))) (fun t_ kont => XS.iconst X0.here hx rfl (hb hby d1_27) kont) ?_
        by_cases hc16 : (k) = ((3 : Int32))
        · refine own_bk (S' := (s₁.setTop (mkF m 31 #[iv k] []))) (fun t_ kont => XS.icmpNo X0.here hx rfl (hb hby d1_28) rfl (teq (hc16)).2 kont) ?_
          obtain ⟨T17, X18, e19, st20⟩ := getS2 X0 hx hZ hown (host := "") (Or.inl (hw _ (List.mem_of_getElem? (i := 19) rfl))) Via.refl e0 G_AGREED.1 (g := (mkF m 31 #[iv k] [])) rfl (hb hby d1_31)
          refine own_bk (S' := (T17.setTop (mkF m 34 #[iv k] [(.ref r_AGREED)]))) st20 ?_
          exact own_retA X18 hx hlk Bd.returns rfl rfl rfl (hb hby d1_34) ⟨by rw [← hv]; simp [hc1, hc6, hc11, hc16], N0, e19⟩ (by decide) (by decide)
        · refine own_bk (S' := (s₁.setTop (mkF m 35 #[iv k] []))) (fun t_ kont => XS.icmpYes X0.here hx rfl (pc0 := 28) (pc' := 35) rfl (hb hby d1_28) rfl (feq (hc16)).2 (by decide) (by decide) kont) ?_
          refine own_bk (S' := (s₁.setTop (mkF m 36 #[iv k] [(.int k)]))) (fun t_ kont => XS.iloadN X0.here hx rfl (hb hby d1_35) rfl kont) ?_
          refine own_bk (S' := (s₁.setTop (mkF m 37 #[iv k] [(.int (4 : Int32)), (.int k)]))) (fun t_ kont => XS.iconst X0.here hx rfl (hb hby d1_36) kont) ?_
          by_cases hc21 : (k) = ((4 : Int32))
          · refine own_bk (S' := (s₁.setTop (mkF m 40 #[iv k] []))) (fun t_ kont => XS.icmpNo X0.here hx rfl (hb hby d1_37) rfl (teq (hc21)).2 kont) ?_
            obtain ⟨T22, X23, e24, st25⟩ := getS2 X0 hx hZ hown (host := "") (Or.inl (hw _ (List.mem_of_getElem? (i := 34) rfl))) Via.refl e0 G_MANAGER_DISPUTED.1 (g := (mkF m 40 #[iv k] [])) rfl (hb hby d1_40)
            refine own_bk (S' := (T22.setTop (mkF m 43 #[iv k] [(.ref r_MANAGER_DISPUTED)]))) st25 ?_
            exact own_retA X23 hx hlk Bd.returns rfl rfl rfl (hb hby d1_43) ⟨by rw [← hv]; simp [hc1, hc6, hc11, hc16, hc21], N0, e24⟩ (by decide) (by decide)
          · refine own_bk (S' := (s₁.setTop (mkF m 44 #[iv k] []))) (fun t_ kont => XS.icmpYes X0.here hx rfl (pc0 := 37) (pc' := 44) rfl (hb hby d1_37) rfl (feq (hc21)).2 (by decide) (by decide) kont) ?_
            refine own_bk (S' := (s₁.setTop (mkF m 45 #[iv k] [(.int k)]))) (fun t_ kont => XS.iloadN X0.here hx rfl (hb hby d1_44) rfl kont) ?_
            refine own_bk (S' := (s₁.setTop (mkF m 46 #[iv k] [(.int (5 : Int32)), (.int k)]))) (fun t_ kont => XS.iconst X0.here hx rfl (hb hby d1_45) kont) ?_
            by_cases hc26 : (k) = ((5 : Int32))
            · refine own_bk (S' := (s₁.setTop (mkF m 49 #[iv k] []))) (fun t_ kont => XS.icmpNo X0.here hx rfl (hb hby d1_46) rfl (teq (hc26)).2 kont) ?_
              obtain ⟨T27, X28, e29, st30⟩ := getS2 X0 hx hZ hown (host := "") (Or.inl (hw _ (List.mem_of_getElem? (i := 31) rfl))) Via.refl e0 G_MANAGER_REJECTED.1 (g := (mkF m 49 #[iv k] [])) rfl (hb hby d1_49)
              refine own_bk (S' := (T27.setTop (mkF m 52 #[iv k] [(.ref r_MANAGER_REJECTED)]))) st30 ?_
              exact own_retA X28 hx hlk Bd.returns rfl rfl rfl (hb hby d1_52) ⟨by rw [← hv]; simp [hc1, hc6, hc11, hc16, hc21, hc26], N0, e29⟩ (by decide) (by decide)
            · refine own_bk (S' := (s₁.setTop (mkF m 53 #[iv k] []))) (fun t_ kont => XS.icmpYes X0.here hx rfl (pc0 := 46) (pc' := 53) rfl (hb hby d1_46) rfl (feq (hc26)).2 (by decide) (by decide) kont) ?_
              refine own_bk (S' := (s₁.setTop (mkF m 54 #[iv k] [(.int k)]))) (fun t_ kont => XS.iloadN X0.here hx rfl (hb hby d1_53) rfl kont) ?_
              refine own_bk (S' := (s₁.setTop (mkF m 56 #[iv k] [(.int (6 : Int32)), (.int k)]))) (fun t_ kont => XS.bipush X0.here hx rfl (hb hby d1_54) kont) ?_
              by_cases hc31 : (k) = ((6 : Int32))
              · refine own_bk (S' := (s₁.setTop (mkF m 59 #[iv k] []))) (fun t_ kont => XS.icmpNo X0.here hx rfl (hb hby d1_56) rfl (teq (hc31)).2 kont) ?_
                obtain ⟨T32, X33, e34, st35⟩ := getS2 X0 hx hZ hown (host := "") (Or.inl (hw _ (List.mem_of_getElem? (i := 33) rfl))) Via.refl e0 G_REJECTED.1 (g := (mkF m 59 #[iv k] [])) rfl (hb hby d1_59)
                refine own_bk (S' := (T32.setTop (mkF m 62 #[iv k] [(.ref r_REJECTED)]))) st35 ?_
                exact own_retA X33 hx hlk Bd.returns rfl rfl rfl (hb hby d1_62) ⟨by rw [← hv]; simp [hc1, hc6, hc11, hc16, hc21, hc26, hc31], N0, e34⟩ (by decide) (by decide)
              · refine own_bk (S' := (s₁.setTop (mkF m 63 #[iv k] []))) (fun t_ kont => XS.icmpYes X0.here hx rfl (pc0 := 56) (pc' := 63) rfl (hb hby d1_56) rfl (feq (hc31)).2 (by decide) (by decide) kont) ?_
                refine own_bk (S' := (s₁.setTop (mkF m 64 #[iv k] [(.int k)]))) (fun t_ kont => XS.iloadN X0.here hx rfl (hb hby d1_63) rfl kont) ?_
                refine own_bk (S' := (s₁.setTop (mkF m 66 #[iv k] [(.int (7 : Int32)), (.int k)]))) (fun t_ kont => XS.bipush X0.here hx rfl (hb hby d1_64) kont) ?_
                by_cases hc36 : (k) = ((7 : Int32))
                · refine own_bk (S' := (s₁.setTop (mkF m 69 #[iv k] []))) (fun t_ kont => XS.icmpNo X0.here hx rfl (hb hby d1_66) rfl (teq (hc36)).2 kont) ?_
                  obtain ⟨T37, X38, e39, st40⟩ := getS2 X0 hx hZ hown (host := "") (Or.inl (hw _ (List.mem_of_getElem? (i := 20) rfl))) Via.refl e0 G_CANCELLED.1 (g := (mkF m 69 #[iv k] [])) rfl (hb hby d1_69)
                  refine own_bk (S' := (T37.setTop (mkF m 72 #[iv k] [(.ref r_CANCELLED)]))) st40 ?_
                  exact own_retA X38 hx hlk Bd.returns rfl rfl rfl (hb hby d1_72) ⟨by rw [← hv]; simp [hc1, hc6, hc11, hc16, hc21, hc26, hc31, hc36], N0, e39⟩ (by decide) (by decide)
                · refine own_bk (S' := (s₁.setTop (mkF m 73 #[iv k] []))) (fun t_ kont => XS.icmpYes X0.here hx rfl (pc0 := 66) (pc' := 73) rfl (hb hby d1_66) rfl (feq (hc36)).2 (by decide) (by decide) kont) ?_
                  refine own_bk (S' := (s₁.setTop (mkF m 74 #[iv k] [(.int k)]))) (fun t_ kont => XS.iloadN X0.here hx rfl (hb hby d1_73) rfl kont) ?_
                  refine own_bk (S' := (s₁.setTop (mkF m 76 #[iv k] [(.int (8 : Int32)), (.int k)]))) (fun t_ kont => XS.bipush X0.here hx rfl (hb hby d1_74) kont) ?_
                  by_cases hc41 : (k) = ((8 : Int32))
                  · refine own_bk (S' := (s₁.setTop (mkF m 79 #[iv k] []))) (fun t_ kont => XS.icmpNo X0.here hx rfl (hb hby d1_76) rfl (teq (hc41)).2 kont) ?_
                    obtain ⟨T42, X43, e44, st45⟩ := getS2 X0 hx hZ hown (host := "") (Or.inl (hw _ (List.mem_of_getElem? (i := 21) rfl))) Via.refl e0 G_SENT.1 (g := (mkF m 79 #[iv k] [])) rfl (hb hby d1_79)
                    refine own_bk (S' := (T42.setTop (mkF m 82 #[iv k] [(.ref r_SENT)]))) st45 ?_
                    exact own_retA X43 hx hlk Bd.returns rfl rfl rfl (hb hby d1_82) ⟨by rw [← hv]; simp [hc1, hc6, hc11, hc16, hc21, hc26, hc31, hc36, hc41], N0, e44⟩ (by decide) (by decide)
                  · refine own_bk (S' := (s₁.setTop (mkF m 83 #[iv k] []))) (fun t_ kont => XS.icmpYes X0.here hx rfl (pc0 := 76) (pc' := 83) rfl (hb hby d1_76) rfl (feq (hc41)).2 (by decide) (by decide) kont) ?_
                    refine own_bk (S' := (s₁.setTop (mkF m 84 #[iv k] [(.int k)]))) (fun t_ kont => XS.iloadN X0.here hx rfl (hb hby d1_83) rfl kont) ?_
                    refine own_bk (S' := (s₁.setTop (mkF m 86 #[iv k] [(.int (9 : Int32)), (.int k)]))) (fun t_ kont => XS.bipush X0.here hx rfl (hb hby d1_84) kont) ?_
                    by_cases hc46 : (k) = ((9 : Int32))
                    · refine own_bk (S' := (s₁.setTop (mkF m 89 #[iv k] []))) (fun t_ kont => XS.icmpNo X0.here hx rfl (hb hby d1_86) rfl (teq (hc46)).2 kont) ?_
                      obtain ⟨T47, X48, e49, st50⟩ := getS2 X0 hx hZ hown (host := "") (Or.inl (hw _ (List.mem_of_getElem? (i := 29) rfl))) Via.refl e0 G_ACKNOWLEDGED.1 (g := (mkF m 89 #[iv k] [])) rfl (hb hby d1_89)
                      refine own_bk (S' := (T47.setTop (mkF m 92 #[iv k] [(.ref r_ACKNOWLEDGED)]))) st50 ?_
                      exact own_retA X48 hx hlk Bd.returns rfl rfl rfl (hb hby d1_92) ⟨by rw [← hv]; simp [hc1, hc6, hc11, hc16, hc21, hc26, hc31, hc36, hc41, hc46], N0, e49⟩ (by decide) (by decide)
                    · refine own_bk (S' := (s₁.setTop (mkF m 93 #[iv k] []))) (fun t_ kont => XS.icmpYes X0.here hx rfl (pc0 := 86) (pc' := 93) rfl (hb hby d1_86) rfl (feq (hc46)).2 (by decide) (by decide) kont) ?_
                      obtain ⟨T51, X52, e53, st54⟩ := getS2 X0 hx hZ hown (host := "") (Or.inl (hw _ (List.mem_of_getElem? (i := 25) rfl))) Via.refl e0 G_BROKER_DISPUTED.1 (g := (mkF m 93 #[iv k] [])) rfl (hb hby d1_93)
                      refine own_bk (S' := (T51.setTop (mkF m 96 #[iv k] [(.ref r_BROKER_DISPUTED)]))) st54 ?_
                      exact own_retA X52 hx hlk Bd.returns rfl rfl rfl (hb hby d1_96) ⟨by rw [← hv]; simp [hc1, hc6, hc11, hc16, hc21, hc26, hc31, hc36, hc41, hc46], N0, e53⟩ (by decide) (by decide)
theorem ef_rm0 (m : MethodId) (x0 : Int32) : entryFrame m #[(.int x0)] maxLocals = mkF m 0 #[.val (.int x0), .unset, .unset, .unset] [] := by first | (simp [entryFrame, mkF, argsToLocals, Value.category, maxLocals]; done) | rfl
def Q_rm0 (Z : State) (v0 : Int32) (r_RECEIVED r_AGREED r_REJECTED r_CANCELLED r_SENT r_DISPUTED r_BROKER_DISPUTED r_ACCEPTED r_ACKNOWLEDGED r_MANAGER_REJECTED r_MANAGER_DISPUTED : Addr) (h0 : Heap) (n0 : Nat) (v : Option Value) (h : Heap) (L : List Loc) : Prop := v = some (.int 1) ∧ Fr n0 L
set_option maxRecDepth 65536 in
set_option maxHeartbeats 40000000 in
theorem rm0 (l : Launch) (Z : State) (a0 : Array Value) (hw : ∀ d ∈ tables_1, d.before a0 Z = true) (ws : List Jvm.Cond) (v0 : Int32) (r_RECEIVED r_AGREED r_REJECTED r_CANCELLED r_SENT r_DISPUTED r_BROKER_DISPUTED r_ACCEPTED r_ACKNOWLEDGED r_MANAGER_REJECTED r_MANAGER_DISPUTED : Addr) (h0 : Heap) (n0 : Nat) (Z0 : n0 ≤ h0.size) (G_RECEIVED : own_E Z h0 r_RECEIVED "com/example/quayside/quayside/PaymentState" "RECEIVED" "Lcom/example/quayside/quayside/PaymentState;" 0) (G_AGREED : own_E Z h0 r_AGREED "com/example/quayside/quayside/PaymentState" "AGREED" "Lcom/example/quayside/quayside/PaymentState;" 3) (G_REJECTED : own_E Z h0 r_REJECTED "com/example/quayside/quayside/PaymentState" "REJECTED" "Lcom/example/quayside/quayside/PaymentState;" 6) (G_CANCELLED : own_E Z h0 r_CANCELLED "com/example/quayside/quayside/PaymentState" "CANCELLED" "Lcom/example/quayside/quayside/PaymentState;" 7) (G_SENT : own_E Z h0 r_SENT "com/example/quayside/quayside/PaymentState" "SENT" "Lcom/example/quayside/quayside/PaymentState;" 8) (G_DISPUTED : own_E Z h0 r_DISPUTED "com/example/quayside/quayside/PaymentState" "DISPUTED" "Lcom/example/quayside/quayside/PaymentState;" 2) (G_BROKER_DISPUTED : own_E Z h0 r_BROKER_DISPUTED "com/example/quayside/quayside/PaymentState" "BROKER_DISPUTED" "Lcom/example/quayside/quayside/PaymentState;" 10) (G_ACCEPTED : own_E Z h0 r_ACCEPTED "com/example/quayside/quayside/PaymentState" "ACCEPTED" "Lcom/example/quayside/quayside/PaymentState;" 1) (G_ACKNOWLEDGED : own_E Z h0 r_ACKNOWLEDGED "com/example/quayside/quayside/PaymentState" "ACKNOWLEDGED" "Lcom/example/quayside/quayside/PaymentState;" 9) (G_MANAGER_REJECTED : own_E Z h0 r_MANAGER_REJECTED "com/example/quayside/quayside/PaymentState" "MANAGER_REJECTED" "Lcom/example/quayside/quayside/PaymentState;" 5) (G_MANAGER_DISPUTED : own_E Z h0 r_MANAGER_DISPUTED "com/example/quayside/quayside/PaymentState" "MANAGER_DISPUTED" "Lcom/example/quayside/quayside/PaymentState;" 4) :
    MetFree l x (head1 (Jvm.Cond.code x code maxLocals ret :: ws) room_1) (fun as_ U_ => as_ = #[(.int v0)] ∧ Z.Warmed39 U_.vm ∧ U_.heap = h0) (fun _ _ _ _ _ => True) (fun _ U_ o_ U2_ => ∃ v_ L_, o_ = .returned v_ ∧ (Q_rm0 Z v0 r_RECEIVED r_AGREED r_REJECTED r_CANCELLED r_SENT r_DISPUTED r_BROKER_DISPUTED r_ACCEPTED r_ACKNOWLEDGED r_MANAGER_REJECTED r_MANAGER_DISPUTED h0 n0) v_ U2_.heap L_ ∧ FrameEnd U_ o_ U2_ L_ room_1.cells room_1.slots) := by
  refine MetFree.of_bodySF (plainFor_of_name (by first | (simp [plainName, overriddenIn]; done) | decide +kernel : plainName "com/example/quayside/quayside/PaymentStateIsFinalPinLaw" = true)) hisR ?_
  intro p e s m args below meth c s₁ Bd hml0 hP hK
  obtain ⟨rfl, hZ, hh⟩ := hP
  have hx := Bd.exec
  have hby := Bd.bytes
  have hlk := Bd.notSynchronized
  have hml : c.maxLocals = 4 := hml0
  have hown : s.vm.findClass "com/example/quayside/quayside/PaymentStateIsFinalPinLaw" = some m.cls := findClass_of_methodNamed Bd.named
  have hnm := (name_of_methodNamed Bd.named Bd.method).1
  have X0 : Stand p l e room_1 s m #[(.int v0)] below meth c s₁ [] 0 0 := Stand.of_body Bd
  have e0 : s₁.heap = h0 := by rw [← hh, Bd.state]; rfl
  have N0 := Fr.nil n0
  show own_Go p e below (own_R s below (Q_rm0 Z v0 r_RECEIVED r_AGREED r_REJECTED r_CANCELLED r_SENT r_DISPUTED r_BROKER_DISPUTED r_ACCEPTED r_ACKNOWLEDGED r_MANAGER_REJECTED r_MANAGER_DISPUTED h0 n0) room_1.cells room_1.slots) (s₁.setTop (entryFrame m #[(.int v0)] maxLocals))
  refine own_bk (S' := (s₁.setTop (mkF m 0 #[iv v0, .unset, .unset, .unset] []))) (fun t_ kont => castTop (ef_rm0 m (v0)) kont) ?_
  refine own_bk (S' := (s₁.setTop (mkF m 1 #[iv v0, .unset, .unset, .unset] [(.int v0)]))) (fun t_ kont => XS.iloadN X0.here hx rfl (hb hby at_0) rfl kont) ?_
  refine own_bk (S' := (s₁.setTop (mkF m 3 #[iv v0, .unset, .unset, .unset] [(.int (2147483647 : Int32)), (.int v0)]))) (fun t_ kont => X0.ldcI hx hown (mvT hZ (hw _ (List.mem_of_getElem? (i := 0) rfl))) rfl (hb hby at_1) kont) ?_
  refine own_bk (S' := (s₁.setTop (mkF m 4 #[iv v0, .unset, .unset, .unset] [(.int (v0 &&& (2147483647 : Int32)))]))) (fun t_ kont => XS.iand X0.here hx rfl (hb hby at_3) rfl kont) ?_
  refine own_bk (S' := (s₁.setTop (mkF m 6 #[iv v0, .unset, .unset, .unset] [(.int (11 : Int32)), (.int (v0 &&& (2147483647 : Int32)))]))) (fun t_ kont => XS.bipush X0.here hx rfl (hb hby at_4) kont) ?_
  refine own_bk (S' := (s₁.setTop (mkF m 7 #[iv v0, .unset, .unset, .unset] [(.int ((v0 &&& (2147483647 : Int32)) % (11 : Int32)))]))) (fun t_ kont => iremM X0 hx rfl (hb hby at_6) rfl (by decide) kont) ?_
  refine own_bk (S' := (s₁.setTop (mkF m 8 #[iv v0, iv ((v0 &&& (2147483647 : Int32)) % (11 : Int32)), .unset, .unset] []))) (fun t_ kont => XS.istoreN X0.here hx rfl (hb hby at_7) rfl (l' := #[iv v0, iv ((v0 &&& (2147483647 : Int32)) % (11 : Int32)), .unset, .unset]) rfl kont) ?_
  refine own_bk (S' := (s₁.setTop (mkF m 9 #[iv v0, iv ((v0 &&& (2147483647 : Int32)) % (11 : Int32)), .unset, .unset] [(.int ((v0 &&& (2147483647 : Int32)) % (11 : Int32)))]))) (fun t_ kont => XS.iloadN X0.here hx rfl (hb hby at_8) rfl kont) ?_
  generalize hK : ((v0 &&& (2147483647 : Int32)) % (11 : Int32)) = k
  by_cases hc1 : k = (0 : Int32)
  · subst hc1
    obtain ⟨_, _, ⟨T2, L3, k4, n5⟩, -, X6, ⟨Lc7, hQ8, l9, y10, z11⟩, st12⟩ := Jvm.LawKit.callS X0 hx (y := (⟨"com/example/quayside/quayside/PaymentStateIsFinalPinLaw", "pick", "(I)Lcom/example/quayside/quayside/PaymentState;"⟩ : MethodName)) hown (mvT hZ (hw _ (List.mem_of_getElem? (i := 1) rfl))) (mvT hZ (hw _ (List.mem_of_getElem? (i := 2) rfl))) (mvT hZ (hw _ (List.mem_of_getElem? (i := 3) rfl))) (mvT hZ (hw _ (List.mem_of_getElem? (i := 4) rfl))) (by decide) (backOf (W := 0) (rm1 l Z a0 hw [] (0 : Int32) r_RECEIVED r_AGREED r_REJECTED r_CANCELLED r_SENT r_DISPUTED r_BROKER_DISPUTED r_ACCEPTED r_ACKNOWLEDGED r_MANAGER_REJECTED r_MANAGER_DISPUTED r_RECEIVED h0 n0 Z0 G_RECEIVED G_AGREED G_REJECTED G_CANCELLED G_SENT G_DISPUTED G_BROKER_DISPUTED G_ACCEPTED G_ACKNOWLEDGED G_MANAGER_REJECTED G_MANAGER_DISPUTED rfl) hZ (hw _ (List.mem_of_getElem? (i := 4) rfl)) (hw _ (List.mem_of_getElem? (i := 3) rfl)) (by decide) (by decide)) (g := (mkF m 9 #[iv v0, iv (0 : Int32), .unset, .unset] [(.int (0 : Int32))])) rfl (by rw [hml]; rfl) (argsL := [(.int (0 : Int32))]) (rest := []) (lenOf (by decide +kernel : parseMethodDescriptor "(I)Lcom/example/quayside/quayside/PaymentState;" = some ⟨[.int], some (.object "com/example/quayside/quayside/PaymentState")⟩) rfl) rfl (by show 2 * 0 + _ ≤ _; exact Nat.le_of_eq rfl) (hb hby at_9) (fun _ _ => ⟨rfl, e0, (by decide : 0 + 0 ≤ _), (by decide : 0 + 0 ≤ _)⟩)
    dsimp only [Pt.U, Pt.locs, Pt.cells, Pt.slots] at X6 l9 y10 z11 st12 hQ8
    subst l9 y10 z11
    obtain ⟨rfl, N13, e14⟩ := hQ8
    have N15 := Fr.app N0 N13
    refine own_bk (S' := (T2.setTop (mkF m 12 #[iv v0, iv (0 : Int32), .unset, .unset] [(.ref r_RECEIVED)]))) st12 ?_
    refine own_bk (S' := (T2.setTop (mkF m 13 #[iv v0, iv (0 : Int32), rv r_RECEIVED, .unset] []))) (fun t_ kont => XS.astoreN X6.here hx rfl (hb hby at_12) rfl rfl (l' := #[iv v0, iv (0 : Int32), rv r_RECEIVED, .unset]) rfl kont) ?_
    refine own_bk (S' := (T2.setTop (mkF m 14 #[iv v0, iv (0 : Int32), rv r_RECEIVED, .unset] [(.int (0 : Int32))]))) (fun t_ kont => XS.iloadN X6.here hx rfl (hb hby at_13) rfl kont) ?_
    refine own_bk (S' := (T2.setTop (mkF m 15 #[iv v0, iv (0 : Int32), rv r_RECEIVED, .unset] [(.int (3 : Int32)), (.int (0 : Int32))]))) (fun t_ kont => XS.iconst X6.here hx rfl (hb hby at_14) kont) ?_
    refine own_bk (S' := (T2.setTop (mkF m 18 #[iv v0, iv (0 : Int32), rv r_RECEIVED, .unset] []))) (fun t_ kont => XS.icmpNo X6.here hx rfl (hb hby at_15) rfl (feq (by decide : ¬ ((0 : Int32)) = ((3 : Int32)))).1 kont) ?_
    refine own_bk (S' := (T2.setTop (mkF m 19 #[iv v0, iv (0 : Int32), rv r_RECEIVED, .unset] [(.int (0 : Int32))]))) (fun t_ kont => XS.iloadN X6.here hx rfl (hb hby at_18) rfl kont) ?_
    refine own_bk (S' := (T2.setTop (mkF m 21 #[iv v0, iv (0 : Int32), rv r_RECEIVED, .unset] [(.int (6 : Int32)), (.int (0 : Int32))]))) (fun t_ kont => XS.bipush X6.here hx rfl (hb hby at_19) kont) ?_
    refine own_bk (S' := (T2.setTop (mkF m 24 #[iv v0, iv (0 : Int32), rv r_RECEIVED, .unset] []))) (fun t_ kont => XS.icmpNo X6.here hx rfl (hb hby at_21) rfl (feq (by decide : ¬ ((0 : Int32)) = ((6 : Int32)))).1 kont) ?_
    refine own_bk (S' := (T2.setTop (mkF m 25 #[iv v0, iv (0 : Int32), rv r_RECEIVED, .unset] [(.int (0 : Int32))]))) (fun t_ kont => XS.iloadN X6.here hx rfl (hb hby at_24) rfl kont) ?_
    refine own_bk (S' := (T2.setTop (mkF m 27 #[iv v0, iv (0 : Int32), rv r_RECEIVED, .unset] [(.int (7 : Int32)), (.int (0 : Int32))]))) (fun t_ kont => XS.bipush X6.here hx rfl (hb hby at_25) kont) ?_
    refine own_bk (S' := (T2.setTop (mkF m 34 #[iv v0, iv (0 : Int32), rv r_RECEIVED, .unset] []))) (fun t_ kont => XS.icmpYes X6.here hx rfl (pc0 := 27) (pc' := 34) rfl (hb hby at_27) rfl (feq (by decide : ¬ ((0 : Int32)) = ((7 : Int32)))).2 (by decide) (by decide) kont) ?_
    refine own_bk (S' := (T2.setTop (mkF m 35 #[iv v0, iv (0 : Int32), rv r_RECEIVED, .unset] [(.int (0 : Int32))]))) (fun t_ kont => XS.iconst X6.here hx rfl (hb hby at_34) kont) ?_
    refine own_bk (S' := (T2.setTop (mkF m 36 #[iv v0, iv (0 : Int32), rv r_RECEIVED, iv (0 : Int32)] []))) (fun t_ kont => XS.istoreN X6.here hx rfl (hb hby at_35) rfl (l' := #[iv v0, iv (0 : Int32), rv r_RECEIVED, iv (0 : Int32)]) rfl kont) ?_
    refine own_bk (S' := (T2.setTop (mkF m 37 #[iv v0, iv (0 : Int32), rv r_RECEIVED, iv (0 : Int32)] [(.ref r_RECEIVED)]))) (fun t_ kont => XS.aloadN X6.here hx rfl (hb hby at_36) rfl rfl kont) ?_
    obtain ⟨cqq27, kqq27, q27a, q27b, q27c⟩ := isOf hZ e14 G_RECEIVED.2.1
    obtain ⟨_, _, ⟨T16, L17, k18, n19⟩, -, X20, ⟨Lc21, hQ22, l23, y24, z25⟩, st26⟩ := X6.virtualBack hx (y := (⟨"com/example/quayside/quayside/PaymentState", "isFinal", "()Z"⟩ : MethodName)) (z := (⟨"com/example/quayside/quayside/PaymentState", "isFinal", "()Z"⟩ : MethodName)) hown (mvT hZ (hw _ (List.mem_of_getElem? (i := 8) rfl))) (mvT hZ (hw _ (List.mem_of_getElem? (i := 9) rfl))) (notFace_of_selects (args := #[]) (mvT hZ (hw _ (List.mem_of_getElem? (i := 11) rfl)))) (mvT hZ (hw _ (List.mem_of_getElem? (i := 11) rfl))) (mvT hZ (hw _ (List.mem_of_getElem? (i := 10) rfl))) (by decide) (backOf (W := 0) (rm2 l Z a0 hw [] r_RECEIVED r_AGREED r_REJECTED r_CANCELLED (0 : Int32) h0 n0 Z0 G_AGREED.1 G_REJECTED.1 G_CANCELLED.1 (by simp [(G_RECEIVED.ne G_AGREED (by decide)), (G_RECEIVED.ne G_REJECTED (by decide)), (G_RECEIVED.ne G_CANCELLED (by decide))])) hZ (hw _ (List.mem_of_getElem? (i := 12) rfl)) (hw _ (List.mem_of_getElem? (i := 6) rfl)) (by decide) (by decide)) q27a q27c (g := (mkF m 37 #[iv v0, iv (0 : Int32), rv r_RECEIVED, iv (0 : Int32)] [(.ref r_RECEIVED)])) rfl (by rw [hml]; rfl) (Steps.refl _) (argsL := []) (rest := []) (lenOf (by decide +kernel : parseMethodDescriptor "()Z" = some ⟨[], some .boolean⟩) rfl) rfl (by show 2 * 0 + _ ≤ _; exact Nat.le_of_eq rfl) (hb hby at_37) (fun _ _ => ⟨rfl, e14, (by decide : 0 + 0 ≤ _), (by decide : 0 + 0 ≤ _)⟩)
    dsimp only [Pt.U, Pt.locs, Pt.cells, Pt.slots] at X20 l23 y24 z25 st26 hQ22
    subst l23 y24 z25
    obtain ⟨rfl, N28, e29⟩ := hQ22
    have N30 := Fr.app N15 N28
    refine own_tr (S' := (T16.setTop (mkF m 40 #[iv v0, iv (0 : Int32), rv r_RECEIVED, iv (0 : Int32)] [(.int (0 : Int32))]))) st26 ?_
    refine own_bk (S' := (T16.setTop (mkF m 41 #[iv v0, iv (0 : Int32), rv r_RECEIVED, iv (0 : Int32)] [(.int (0 : Int32)), (.int (0 : Int32))]))) (fun t_ kont => XS.iloadN X20.here hx rfl (hb hby at_40) rfl kont) ?_
    refine own_bk (S' := (T16.setTop (mkF m 44 #[iv v0, iv (0 : Int32), rv r_RECEIVED, iv (0 : Int32)] []))) (fun t_ kont => XS.icmpNo X20.here hx rfl (hb hby at_41) rfl (teq (by decide : ((0 : Int32)) = ((0 : Int32)))).2 kont) ?_
    refine own_bk (S' := (T16.setTop (mkF m 45 #[iv v0, iv (0 : Int32), rv r_RECEIVED, iv (0 : Int32)] [(.int (1 : Int32))]))) (fun t_ kont => XS.iconst X20.here hx rfl (hb hby at_44) kont) ?_
    refine own_bk (S' := (T16.setTop (mkF m 49 #[iv v0, iv (0 : Int32), rv r_RECEIVED, iv (0 : Int32)] [(.int (1 : Int32))]))) (fun t_ kont => XS.goto X20.here hx rfl (pc0 := 45) (pc' := 49) rfl (hb hby at_45) (by decide) (by decide) kont) ?_
    exact own_retN X20 hx hlk (t := .boolean) (w := (1 : Int32)) Bd.returns (by simp) (hb hby at_49) rfl ⟨rfl, N30⟩ (by decide) (by decide)
  · by_cases hc31 : k = (1 : Int32)
    · subst hc31
      obtain ⟨_, _, ⟨T32, L33, k34, n35⟩, -, X36, ⟨Lc37, hQ38, l39, y40, z41⟩, st42⟩ := Jvm.LawKit.callS X0 hx (y := (⟨"com/example/quayside/quayside/PaymentStateIsFinalPinLaw", "pick", "(I)Lcom/example/quayside/quayside/PaymentState;"⟩ : MethodName)) hown (mvT hZ (hw _ (List.mem_of_getElem? (i := 1) rfl))) (mvT hZ (hw _ (List.mem_of_getElem? (i := 2) rfl))) (mvT hZ (hw _ (List.mem_of_getElem? (i := 3) rfl))) (mvT hZ (hw _ (List.mem_of_getElem? (i := 4) rfl))) (by decide) (backOf (W := 0) (rm1 l Z a0 hw [] (1 : Int32) r_RECEIVED r_AGREED r_REJECTED r_CANCELLED r_SENT r_DISPUTED r_BROKER_DISPUTED r_ACCEPTED r_ACKNOWLEDGED r_MANAGER_REJECTED r_MANAGER_DISPUTED r_ACCEPTED h0 n0 Z0 G_RECEIVED G_AGREED G_REJECTED G_CANCELLED G_SENT G_DISPUTED G_BROKER_DISPUTED G_ACCEPTED G_ACKNOWLEDGED G_MANAGER_REJECTED G_MANAGER_DISPUTED rfl) hZ (hw _ (List.mem_of_getElem? (i := 4) rfl)) (hw _ (List.mem_of_getElem? (i := 3) rfl)) (by decide) (by decide)) (g := (mkF m 9 #[iv v0, iv (1 : Int32), .unset, .unset] [(.int (1 : Int32))])) rfl (by rw [hml]; rfl) (argsL := [(.int (1 : Int32))]) (rest := []) (lenOf (by decide +kernel : parseMethodDescriptor "(I)Lcom/example/quayside/quayside/PaymentState;" = some ⟨[.int], some (.object "com/example/quayside/quayside/PaymentState")⟩) rfl) rfl (by show 2 * 0 + _ ≤ _; exact Nat.le_of_eq rfl) (hb hby at_9) (fun _ _ => ⟨rfl, e0, (by decide : 0 + 0 ≤ _), (by decide : 0 + 0 ≤ _)⟩)
      dsimp only [Pt.U, Pt.locs, Pt.cells, Pt.slots] at X36 l39 y40 z41 st42 hQ38
      subst l39 y40 z41
      obtain ⟨rfl, N43, e44⟩ := hQ38
      have N45 := Fr.app N0 N43
      refine own_bk (S' := (T32.setTop (mkF m 12 #[iv v0, iv (1 : Int32), .unset, .unset] [(.ref r_ACCEPTED)]))) st42 ?_
      refine own_bk (S' := (T32.setTop (mkF m 13 #[iv v0, iv (1 : Int32), rv r_ACCEPTED, .unset] []))) (fun t_ kont => XS.astoreN X36.here hx rfl (hb hby at_12) rfl rfl (l' := #[iv v0, iv (1 : Int32), rv r_ACCEPTED, .unset]) rfl kont) ?_
      refine own_bk (S' := (T32.setTop (mkF m 14 #[iv v0, iv (1 : Int32), rv r_ACCEPTED, .unset] [(.int (1 : Int32))]))) (fun t_ kont => XS.iloadN X36.here hx rfl (hb hby at_13) rfl kont) ?_
      refine own_bk (S' := (T32.setTop (mkF m 15 #[iv v0, iv (1 : Int32), rv r_ACCEPTED, .unset] [(.int (3 : Int32)), (.int (1 : Int32))]))) (fun t_ kont => XS.iconst X36.here hx rfl (hb hby at_14) kont) ?_
      refine own_bk (S' := (T32.setTop (mkF m 18 #[iv v0, iv (1 : Int32), rv r_ACCEPTED, .unset] []))) (fun t_ kont => XS.icmpNo X36.here hx rfl (hb hby at_15) rfl (feq (by decide : ¬ ((1 : Int32)) = ((3 : Int32)))).1 kont) ?_
      refine own_bk (S' := (T32.setTop (mkF m 19 #[iv v0, iv (1 : Int32), rv r_ACCEPTED, .unset] [(.int (1 : Int32))]))) (fun t_ kont => XS.iloadN X36.here hx rfl (hb hby at_18) rfl kont) ?_
      refine own_bk (S' := (T32.setTop (mkF m 21 #[iv v0, iv (1 : Int32), rv r_ACCEPTED, .unset] [(.int (6 : Int32)), (.int (1 : Int32))]))) (fun t_ kont => XS.bipush X36.here hx rfl (hb hby at_19) kont) ?_
      refine own_bk (S' := (T32.setTop (mkF m 24 #[iv v0, iv (1 : Int32), rv r_ACCEPTED, .unset] []))) (fun t_ kont => XS.icmpNo X36.here hx rfl (hb hby at_21) rfl (feq (by decide : ¬ ((1 : Int32)) = ((6 : Int32)))).1 kont) ?_
      refine own_bk (S' := (T32.setTop (mkF m 25 #[iv v0, iv (1 : Int32), rv r_ACCEPTED, .unset] [(.int (1 : Int32))]))) (fun t_ kont => XS.iloadN X36.here hx rfl (hb hby at_24) rfl kont) ?_
      refine own_bk (S' := (T32.setTop (mkF m 27 #[iv v0, iv (1 : Int32), rv r_ACCEPTED, .unset] [(.int (7 : Int32)), (.int (1 : Int32))]))) (fun t_ kont => XS.bipush X36.here hx rfl (hb hby at_25) kont) ?_
      refine own_bk (S' := (T32.setTop (mkF m 34 #[iv v0, iv (1 : Int32), rv r_ACCEPTED, .unset] []))) (fun t_ kont => XS.icmpYes X36.here hx rfl (pc0 := 27) (pc' := 34) rfl (hb hby at_27) rfl (feq (by decide : ¬ ((1 : Int32)) = ((7 : Int32)))).2 (by decide) (by decide) kont) ?_
      refine own_bk (S' := (T32.setTop (mkF m 35 #[iv v0, iv (1 : Int32), rv r_ACCEPTED, .unset] [(.int (0 : Int32))]))) (fun t_ kont => XS.iconst X36.here hx rfl (hb hby at_34) kont) ?_
      refine own_bk (S' := (T32.setTop (mkF m 36 #[iv v0, iv (1 : Int32), rv r_ACCEPTED, iv (0 : Int32)] []))) (fun t_ kont => XS.istoreN X36.here hx rfl (hb hby at_35) rfl (l' := #[iv v0, iv (1 : Int32), rv r_ACCEPTED, iv (0 : Int32)]) rfl kont) ?_
      refine own_bk (S' := (T32.setTop (mkF m 37 #[iv v0, iv (1 : Int32), rv r_ACCEPTED, iv (0 : Int32)] [(.ref r_ACCEPTED)]))) (fun t_ kont => XS.aloadN X36.here hx rfl (hb hby at_36) rfl rfl kont) ?_
      obtain ⟨cqq57, kqq57, q57a, q57b, q57c⟩ := isOf hZ e44 G_ACCEPTED.2.1
      obtain ⟨_, _, ⟨T46, L47, k48, n49⟩, -, X50, ⟨Lc51, hQ52, l53, y54, z55⟩, st56⟩ := X36.virtualBack hx (y := (⟨"com/example/quayside/quayside/PaymentState", "isFinal", "()Z"⟩ : MethodName)) (z := (⟨"com/example/quayside/quayside/PaymentState", "isFinal", "()Z"⟩ : MethodName)) hown (mvT hZ (hw _ (List.mem_of_getElem? (i := 8) rfl))) (mvT hZ (hw _ (List.mem_of_getElem? (i := 9) rfl))) (notFace_of_selects (args := #[]) (mvT hZ (hw _ (List.mem_of_getElem? (i := 11) rfl)))) (mvT hZ (hw _ (List.mem_of_getElem? (i := 11) rfl))) (mvT hZ (hw _ (List.mem_of_getElem? (i := 10) rfl))) (by decide) (backOf (W := 0) (rm2 l Z a0 hw [] r_ACCEPTED r_AGREED r_REJECTED r_CANCELLED (0 : Int32) h0 n0 Z0 G_AGREED.1 G_REJECTED.1 G_CANCELLED.1 (by simp [(G_ACCEPTED.ne G_AGREED (by decide)), (G_ACCEPTED.ne G_REJECTED (by decide)), (G_ACCEPTED.ne G_CANCELLED (by decide))])) hZ (hw _ (List.mem_of_getElem? (i := 12) rfl)) (hw _ (List.mem_of_getElem? (i := 6) rfl)) (by decide) (by decide)) q57a q57c (g := (mkF m 37 #[iv v0, iv (1 : Int32), rv r_ACCEPTED, iv (0 : Int32)] [(.ref r_ACCEPTED)])) rfl (by rw [hml]; rfl) (Steps.refl _) (argsL := []) (rest := []) (lenOf (by decide +kernel : parseMethodDescriptor "()Z" = some ⟨[], some .boolean⟩) rfl) rfl (by show 2 * 0 + _ ≤ _; exact Nat.le_of_eq rfl) (hb hby at_37) (fun _ _ => ⟨rfl, e44, (by decide : 0 + 0 ≤ _), (by decide : 0 + 0 ≤ _)⟩)
      dsimp only [Pt.U, Pt.locs, Pt.cells, Pt.slots] at X50 l53 y54 z55 st56 hQ52
      subst l53 y54 z55
      obtain ⟨rfl, N58, e59⟩ := hQ52
      have N60 := Fr.app N45 N58
      refine own_tr (S' := (T46.setTop (mkF m 40 #[iv v0, iv (1 : Int32), rv r_ACCEPTED, iv (0 : Int32)] [(.int (0 : Int32))]))) st56 ?_
      refine own_bk (S' := (T46.setTop (mkF m 41 #[iv v0, iv (1 : Int32), rv r_ACCEPTED, iv (0 : Int32)] [(.int (0 : Int32)), (.int (0 : Int32))]))) (fun t_ kont => XS.iloadN X50.here hx rfl (hb hby at_40) rfl kont) ?_
      refine own_bk (S' := (T46.setTop (mkF m 44 #[iv v0, iv (1 : Int32), rv r_ACCEPTED, iv (0 : Int32)] []))) (fun t_ kont => XS.icmpNo X50.here hx rfl (hb hby at_41) rfl (teq (by decide : ((0 : Int32)) = ((0 : Int32)))).2 kont) ?_
      refine own_bk (S' := (T46.setTop (mkF m 45 #[iv v0, iv (1 : Int32), rv r_ACCEPTED, iv (0 : Int32)] [(.int (1 : Int32))]))) (fun t_ kont => XS.iconst X50.here hx rfl (hb hby at_44) kont) ?_
      refine own_bk (S' := (T46.setTop (mkF m 49 #[iv v0, iv (1 : Int32), rv r_ACCEPTED, iv (0 : Int32)] [(.int (1 : Int32))]))) (fun t_ kont => XS.goto X50.here hx rfl (pc0 := 45) (pc' := 49) rfl (hb hby at_45) (by decide) (by decide) kont) ?_
      exact own_retN X50 hx hlk (t := .boolean) (w := (1 : Int32)) Bd.returns (by simp) (hb hby at_49) rfl ⟨rfl, N60⟩ (by decide) (by decide)
    · by_cases hc61 : k = (2 : Int32)
      · subst hc61
        obtain ⟨_, _, ⟨T62, L63, k64, n65⟩, -, X66, ⟨Lc67, hQ68, l69, y70, z71⟩, st72⟩ := Jvm.LawKit.callS X0 hx (y := (⟨"com/example/quayside/quayside/PaymentStateIsFinalPinLaw", "pick", "(I)Lcom/example/quayside/quayside/PaymentState;"⟩ : MethodName)) hown (mvT hZ (hw _ (List.mem_of_getElem? (i := 1) rfl))) (mvT hZ (hw _ (List.mem_of_getElem? (i := 2) rfl))) (mvT hZ (hw _ (List.mem_of_getElem? (i := 3) rfl))) (mvT hZ (hw _ (List.mem_of_getElem? (i := 4) rfl))) (by decide) (backOf (W := 0) (rm1 l Z a0 hw [] (2 : Int32) r_RECEIVED r_AGREED r_REJECTED r_CANCELLED r_SENT r_DISPUTED r_BROKER_DISPUTED r_ACCEPTED r_ACKNOWLEDGED r_MANAGER_REJECTED r_MANAGER_DISPUTED r_DISPUTED h0 n0 Z0 G_RECEIVED G_AGREED G_REJECTED G_CANCELLED G_SENT G_DISPUTED G_BROKER_DISPUTED G_ACCEPTED G_ACKNOWLEDGED G_MANAGER_REJECTED G_MANAGER_DISPUTED rfl) hZ (hw _ (List.mem_of_getElem? (i := 4) rfl)) (hw _ (List.mem_of_getElem? (i := 3) rfl)) (by decide) (by decide)) (g := (mkF m 9 #[iv v0, iv (2 : Int32), .unset, .unset] [(.int (2 : Int32))])) rfl (by rw [hml]; rfl) (argsL := [(.int (2 : Int32))]) (rest := []) (lenOf (by decide +kernel : parseMethodDescriptor "(I)Lcom/example/quayside/quayside/PaymentState;" = some ⟨[.int], some (.object "com/example/quayside/quayside/PaymentState")⟩) rfl) rfl (by show 2 * 0 + _ ≤ _; exact Nat.le_of_eq rfl) (hb hby at_9) (fun _ _ => ⟨rfl, e0, (by decide : 0 + 0 ≤ _), (by decide : 0 + 0 ≤ _)⟩)
        dsimp only [Pt.U, Pt.locs, Pt.cells, Pt.slots] at X66 l69 y70 z71 st72 hQ68
        subst l69 y70 z71
        obtain ⟨rfl, N73, e74⟩ := hQ68
        have N75 := Fr.app N0 N73
        refine own_bk (S' := (T62.setTop (mkF m 12 #[iv v0, iv (2 : Int32), .unset, .unset] [(.ref r_DISPUTED)]))) st72 ?_
        refine own_bk (S' := (T62.setTop (mkF m 13 #[iv v0, iv (2 : Int32), rv r_DISPUTED, .unset] []))) (fun t_ kont => XS.astoreN X66.here hx rfl (hb hby at_12) rfl rfl (l' := #[iv v0, iv (2 : Int32), rv r_DISPUTED, .unset]) rfl kont) ?_
        refine own_bk (S' := (T62.setTop (mkF m 14 #[iv v0, iv (2 : Int32), rv r_DISPUTED, .unset] [(.int (2 : Int32))]))) (fun t_ kont => XS.iloadN X66.here hx rfl (hb hby at_13) rfl kont) ?_
        refine own_bk (S' := (T62.setTop (mkF m 15 #[iv v0, iv (2 : Int32), rv r_DISPUTED, .unset] [(.int (3 : Int32)), (.int (2 : Int32))]))) (fun t_ kont => XS.iconst X66.here hx rfl (hb hby at_14) kont) ?_
        refine own_bk (S' := (T62.setTop (mkF m 18 #[iv v0, iv (2 : Int32), rv r_DISPUTED, .unset] []))) (fun t_ kont => XS.icmpNo X66.here hx rfl (hb hby at_15) rfl (feq (by decide : ¬ ((2 : Int32)) = ((3 : Int32)))).1 kont) ?_
        refine own_bk (S' := (T62.setTop (mkF m 19 #[iv v0, iv (2 : Int32), rv r_DISPUTED, .unset] [(.int (2 : Int32))]))) (fun t_ kont => XS.iloadN X66.here hx rfl (hb hby at_18) rfl kont) ?_
        refine own_bk (S' := (T62.setTop (mkF m 21 #[iv v0, iv (2 : Int32), rv r_DISPUTED, .unset] [(.int (6 : Int32)), (.int (2 : Int32))]))) (fun t_ kont => XS.bipush X66.here hx rfl (hb hby at_19) kont) ?_
        refine own_bk (S' := (T62.setTop (mkF m 24 #[iv v0, iv (2 : Int32), rv r_DISPUTED, .unset] []))) (fun t_ kont => XS.icmpNo X66.here hx rfl (hb hby at_21) rfl (feq (by decide : ¬ ((2 : Int32)) = ((6 : Int32)))).1 kont) ?_
        refine own_bk (S' := (T62.setTop (mkF m 25 #[iv v0, iv (2 : Int32), rv r_DISPUTED, .unset] [(.int (2 : Int32))]))) (fun t_ kont => XS.iloadN X66.here hx rfl (hb hby at_24) rfl kont) ?_
        refine own_bk (S' := (T62.setTop (mkF m 27 #[iv v0, iv (2 : Int32), rv r_DISPUTED, .unset] [(.int (7 : Int32)), (.int (2 : Int32))]))) (fun t_ kont => XS.bipush X66.here hx rfl (hb hby at_25) kont) ?_
        refine own_bk (S' := (T62.setTop (mkF m 34 #[iv v0, iv (2 : Int32), rv r_DISPUTED, .unset] []))) (fun t_ kont => XS.icmpYes X66.here hx rfl (pc0 := 27) (pc' := 34) rfl (hb hby at_27) rfl (feq (by decide : ¬ ((2 : Int32)) = ((7 : Int32)))).2 (by decide) (by decide) kont) ?_
        refine own_bk (S' := (T62.setTop (mkF m 35 #[iv v0, iv (2 : Int32), rv r_DISPUTED, .unset] [(.int (0 : Int32))]))) (fun t_ kont => XS.iconst X66.here hx rfl (hb hby at_34) kont) ?_
        refine own_bk (S' := (T62.setTop (mkF m 36 #[iv v0, iv (2 : Int32), rv r_DISPUTED, iv (0 : Int32)] []))) (fun t_ kont => XS.istoreN X66.here hx rfl (hb hby at_35) rfl (l' := #[iv v0, iv (2 : Int32), rv r_DISPUTED, iv (0 : Int32)]) rfl kont) ?_
        refine own_bk (S' := (T62.setTop (mkF m 37 #[iv v0, iv (2 : Int32), rv r_DISPUTED, iv (0 : Int32)] [(.ref r_DISPUTED)]))) (fun t_ kont => XS.aloadN X66.here hx rfl (hb hby at_36) rfl rfl kont) ?_
        obtain ⟨cqq87, kqq87, q87a, q87b, q87c⟩ := isOf hZ e74 G_DISPUTED.2.1
        obtain ⟨_, _, ⟨T76, L77, k78, n79⟩, -, X80, ⟨Lc81, hQ82, l83, y84, z85⟩, st86⟩ := X66.virtualBack hx (y := (⟨"com/example/quayside/quayside/PaymentState", "isFinal", "()Z"⟩ : MethodName)) (z := (⟨"com/example/quayside/quayside/PaymentState", "isFinal", "()Z"⟩ : MethodName)) hown (mvT hZ (hw _ (List.mem_of_getElem? (i := 8) rfl))) (mvT hZ (hw _ (List.mem_of_getElem? (i := 9) rfl))) (notFace_of_selects (args := #[]) (mvT hZ (hw _ (List.mem_of_getElem? (i := 11) rfl)))) (mvT hZ (hw _ (List.mem_of_getElem? (i := 11) rfl))) (mvT hZ (hw _ (List.mem_of_getElem? (i := 10) rfl))) (by decide) (backOf (W := 0) (rm2 l Z a0 hw [] r_DISPUTED r_AGREED r_REJECTED r_CANCELLED (0 : Int32) h0 n0 Z0 G_AGREED.1 G_REJECTED.1 G_CANCELLED.1 (by simp [(G_DISPUTED.ne G_AGREED (by decide)), (G_DISPUTED.ne G_REJECTED (by decide)), (G_DISPUTED.ne G_CANCELLED (by decide))])) hZ (hw _ (List.mem_of_getElem? (i := 12) rfl)) (hw _ (List.mem_of_getElem? (i := 6) rfl)) (by decide) (by decide)) q87a q87c (g := (mkF m 37 #[iv v0, iv (2 : Int32), rv r_DISPUTED, iv (0 : Int32)] [(.ref r_DISPUTED)])) rfl (by rw [hml]; rfl) (Steps.refl _) (argsL := []) (rest := []) (lenOf (by decide +kernel : parseMethodDescriptor "()Z" = some ⟨[], some .boolean⟩) rfl) rfl (by show 2 * 0 + _ ≤ _; exact Nat.le_of_eq rfl) (hb hby at_37) (fun _ _ => ⟨rfl, e74, (by decide : 0 + 0 ≤ _), (by decide : 0 + 0 ≤ _)⟩)
        dsimp only [Pt.U, Pt.locs, Pt.cells, Pt.slots] at X80 l83 y84 z85 st86 hQ82
        subst l83 y84 z85
        obtain ⟨rfl, N88, e89⟩ := hQ82
        have N90 := Fr.app N75 N88
        refine own_tr (S' := (T76.setTop (mkF m 40 #[iv v0, iv (2 : Int32), rv r_DISPUTED, iv (0 : Int32)] [(.int (0 : Int32))]))) st86 ?_
        refine own_bk (S' := (T76.setTop (mkF m 41 #[iv v0, iv (2 : Int32), rv r_DISPUTED, iv (0 : Int32)] [(.int (0 : Int32)), (.int (0 : Int32))]))) (fun t_ kont => XS.iloadN X80.here hx rfl (hb hby at_40) rfl kont) ?_
        refine own_bk (S' := (T76.setTop (mkF m 44 #[iv v0, iv (2 : Int32), rv r_DISPUTED, iv (0 : Int32)] []))) (fun t_ kont => XS.icmpNo X80.here hx rfl (hb hby at_41) rfl (teq (by decide : ((0 : Int32)) = ((0 : Int32)))).2 kont) ?_
        refine own_bk (S' := (T76.setTop (mkF m 45 #[iv v0, iv (2 : Int32), rv r_DISPUTED, iv (0 : Int32)] [(.int (1 : Int32))]))) (fun t_ kont => XS.iconst X80.here hx rfl (hb hby at_44) kont) ?_
        refine own_bk (S' := (T76.setTop (mkF m 49 #[iv v0, iv (2 : Int32), rv r_DISPUTED, iv (0 : Int32)] [(.int (1 : Int32))]))) (fun t_ kont => XS.goto X80.here hx rfl (pc0 := 45) (pc' := 49) rfl (hb hby at_45) (by decide) (by decide) kont) ?_
        exact own_retN X80 hx hlk (t := .boolean) (w := (1 : Int32)) Bd.returns (by simp) (hb hby at_49) rfl ⟨rfl, N90⟩ (by decide) (by decide)
      · by_cases hc91 : k = (3 : Int32)
        · subst hc91
          obtain ⟨_, _, ⟨T92, L93, k94, n95⟩, -, X96, ⟨Lc97, hQ98, l99, y100, z101⟩, st102⟩ := Jvm.LawKit.callS X0 hx (y := (⟨"com/example/quayside/quayside/PaymentStateIsFinalPinLaw", "pick", "(I)Lcom/example/quayside/quayside/PaymentState;"⟩ : MethodName)) hown (mvT hZ (hw _ (List.mem_of_getElem? (i := 1) rfl))) (mvT hZ (hw _ (List.mem_of_getElem? (i := 2) rfl))) (mvT hZ (hw _ (List.mem_of_getElem? (i := 3) rfl))) (mvT hZ (hw _ (List.mem_of_getElem? (i := 4) rfl))) (by decide) (backOf (W := 0) (rm1 l Z a0 hw [] (3 : Int32) r_RECEIVED r_AGREED r_REJECTED r_CANCELLED r_SENT r_DISPUTED r_BROKER_DISPUTED r_ACCEPTED r_ACKNOWLEDGED r_MANAGER_REJECTED r_MANAGER_DISPUTED r_AGREED h0 n0 Z0 G_RECEIVED G_AGREED G_REJECTED G_CANCELLED G_SENT G_DISPUTED G_BROKER_DISPUTED G_ACCEPTED G_ACKNOWLEDGED G_MANAGER_REJECTED G_MANAGER_DISPUTED rfl) hZ (hw _ (List.mem_of_getElem? (i := 4) rfl)) (hw _ (List.mem_of_getElem? (i := 3) rfl)) (by decide) (by decide)) (g := (mkF m 9 #[iv v0, iv (3 : Int32), .unset, .unset] [(.int (3 : Int32))])) rfl (by rw [hml]; rfl) (argsL := [(.int (3 : Int32))]) (rest := []) (lenOf (by decide +kernel : parseMethodDescriptor "(I)Lcom/example/quayside/quayside/PaymentState;" = some ⟨[.int], some (.object "com/example/quayside/quayside/PaymentState")⟩) rfl) rfl (by show 2 * 0 + _ ≤ _; exact Nat.le_of_eq rfl) (hb hby at_9) (fun _ _ => ⟨rfl, e0, (by decide : 0 + 0 ≤ _), (by decide : 0 + 0 ≤ _)⟩)
          dsimp only [Pt.U, Pt.locs, Pt.cells, Pt.slots] at X96 l99 y100 z101 st102 hQ98
          subst l99 y100 z101
          obtain ⟨rfl, N103, e104⟩ := hQ98
          have N105 := Fr.app N0 N103
          refine own_bk (S' := (T92.setTop (mkF m 12 #[iv v0, iv (3 : Int32), .unset, .unset] [(.ref r_AGREED)]))) st102 ?_
          refine own_bk (S' := (T92.setTop (mkF m 13 #[iv v0, iv (3 : Int32), rv r_AGREED, .unset] []))) (fun t_ kont => XS.astoreN X96.here hx rfl (hb hby at_12) rfl rfl (l' := #[iv v0, iv (3 : Int32), rv r_AGREED, .unset]) rfl kont) ?_
          refine own_bk (S' := (T92.setTop (mkF m 14 #[iv v0, iv (3 : Int32), rv r_AGREED, .unset] [(.int (3 : Int32))]))) (fun t_ kont => XS.iloadN X96.here hx rfl (hb hby at_13) rfl kont) ?_
          refine own_bk (S' := (T92.setTop (mkF m 15 #[iv v0, iv (3 : Int32), rv r_AGREED, .unset] [(.int (3 : Int32)), (.int (3 : Int32))]))) (fun t_ kont => XS.iconst X96.here hx rfl (hb hby at_14) kont) ?_
          refine own_bk (S' := (T92.setTop (mkF m 30 #[iv v0, iv (3 : Int32), rv r_AGREED, .unset] []))) (fun t_ kont => XS.icmpYes X96.here hx rfl (pc0 := 15) (pc' := 30) rfl (hb hby at_15) rfl (teq (by decide : ((3 : Int32)) = ((3 : Int32)))).1 (by decide) (by decide) kont) ?_
          refine own_bk (S' := (T92.setTop (mkF m 31 #[iv v0, iv (3 : Int32), rv r_AGREED, .unset] [(.int (1 : Int32))]))) (fun t_ kont => XS.iconst X96.here hx rfl (hb hby at_30) kont) ?_
          refine own_bk (S' := (T92.setTop (mkF m 35 #[iv v0, iv (3 : Int32), rv r_AGREED, .unset] [(.int (1 : Int32))]))) (fun t_ kont => XS.goto X96.here hx rfl (pc0 := 31) (pc' := 35) rfl (hb hby at_31) (by decide) (by decide) kont) ?_
          refine own_bk (S' := (T92.setTop (mkF m 36 #[iv v0, iv (3 : Int32), rv r_AGREED, iv (1 : Int32)] []))) (fun t_ kont => XS.istoreN X96.here hx rfl (hb hby at_35) rfl (l' := #[iv v0, iv (3 : Int32), rv r_AGREED, iv (1 : Int32)]) rfl kont) ?_
          refine own_bk (S' := (T92.setTop (mkF m 37 #[iv v0, iv (3 : Int32), rv r_AGREED, iv (1 : Int32)] [(.ref r_AGREED)]))) (fun t_ kont => XS.aloadN X96.here hx rfl (hb hby at_36) rfl rfl kont) ?_
          obtain ⟨cqq117, kqq117, q117a, q117b, q117c⟩ := isOf hZ e104 G_AGREED.2.1
          obtain ⟨_, _, ⟨T106, L107, k108, n109⟩, -, X110, ⟨Lc111, hQ112, l113, y114, z115⟩, st116⟩ := X96.virtualBack hx (y := (⟨"com/example/quayside/quayside/PaymentState", "isFinal", "()Z"⟩ : MethodName)) (z := (⟨"com/example/quayside/quayside/PaymentState", "isFinal", "()Z"⟩ : MethodName)) hown (mvT hZ (hw _ (List.mem_of_getElem? (i := 8) rfl))) (mvT hZ (hw _ (List.mem_of_getElem? (i := 9) rfl))) (notFace_of_selects (args := #[]) (mvT hZ (hw _ (List.mem_of_getElem? (i := 11) rfl)))) (mvT hZ (hw _ (List.mem_of_getElem? (i := 11) rfl))) (mvT hZ (hw _ (List.mem_of_getElem? (i := 10) rfl))) (by decide) (backOf (W := 0) (rm2 l Z a0 hw [] r_AGREED r_AGREED r_REJECTED r_CANCELLED (1 : Int32) h0 n0 Z0 G_AGREED.1 G_REJECTED.1 G_CANCELLED.1 (by simp [(G_AGREED.ne G_REJECTED (by decide)), (G_AGREED.ne G_CANCELLED (by decide))])) hZ (hw _ (List.mem_of_getElem? (i := 12) rfl)) (hw _ (List.mem_of_getElem? (i := 6) rfl)) (by decide) (by decide)) q117a q117c (g := (mkF m 37 #[iv v0, iv (3 : Int32), rv r_AGREED, iv (1 : Int32)] [(.ref r_AGREED)])) rfl (by rw [hml]; rfl) (Steps.refl _) (argsL := []) (rest := []) (lenOf (by decide +kernel : parseMethodDescriptor "()Z" = some ⟨[], some .boolean⟩) rfl) rfl (by show 2 * 0 + _ ≤ _; exact Nat.le_of_eq rfl) (hb hby at_37) (fun _ _ => ⟨rfl, e104, (by decide : 0 + 0 ≤ _), (by decide : 0 + 0 ≤ _)⟩)
          dsimp only [Pt.U, Pt.locs, Pt.cells, Pt.slots] at X110 l113 y114 z115 st116 hQ112
          subst l113 y114 z115
          obtain ⟨rfl, N118, e119⟩ := hQ112
          have N120 := Fr.app N105 N118
          refine own_tr (S' := (T106.setTop (mkF m 40 #[iv v0, iv (3 : Int32), rv r_AGREED, iv (1 : Int32)] [(.int (1 : Int32))]))) st116 ?_
          refine own_bk (S' := (T106.setTop (mkF m 41 #[iv v0, iv (3 : Int32), rv r_AGREED, iv (1 : Int32)] [(.int (1 : Int32)), (.int (1 : Int32))]))) (fun t_ kont => XS.iloadN X110.here hx rfl (hb hby at_40) rfl kont) ?_
          refine own_bk (S' := (T106.setTop (mkF m 44 #[iv v0, iv (3 : Int32), rv r_AGREED, iv (1 : Int32)] []))) (fun t_ kont => XS.icmpNo X110.here hx rfl (hb hby at_41) rfl (teq (by decide : ((1 : Int32)) = ((1 : Int32)))).2 kont) ?_
          refine own_bk (S' := (T106.setTop (mkF m 45 #[iv v0, iv (3 : Int32), rv r_AGREED, iv (1 : Int32)] [(.int (1 : Int32))]))) (fun t_ kont => XS.iconst X110.here hx rfl (hb hby at_44) kont) ?_
          refine own_bk (S' := (T106.setTop (mkF m 49 #[iv v0, iv (3 : Int32), rv r_AGREED, iv (1 : Int32)] [(.int (1 : Int32))]))) (fun t_ kont => XS.goto X110.here hx rfl (pc0 := 45) (pc' := 49) rfl (hb hby at_45) (by decide) (by decide) kont) ?_
          exact own_retN X110 hx hlk (t := .boolean) (w := (1 : Int32)) Bd.returns (by simp) (hb hby at_49) rfl ⟨rfl, N120⟩ (by decide) (by decide)
        · by_cases hc121 : k = (4 : Int32)
          · subst hc121
            obtain ⟨_, _, ⟨T122, L123, k124, n125⟩, -, X126, ⟨Lc127, hQ128, l129, y130, z131⟩, st132⟩ := Jvm.LawKit.callS X0 hx (y := (⟨"com/example/quayside/quayside/PaymentStateIsFinalPinLaw", "pick", "(I)Lcom/example/quayside/quayside/PaymentState;"⟩ : MethodName)) hown (mvT hZ (hw _ (List.mem_of_getElem? (i := 1) rfl))) (mvT hZ (hw _ (List.mem_of_getElem? (i := 2) rfl))) (mvT hZ (hw _ (List.mem_of_getElem? (i := 3) rfl))) (mvT hZ (hw _ (List.mem_of_getElem? (i := 4) rfl))) (by decide) (backOf (W := 0) (rm1 l Z a0 hw [] (4 : Int32) r_RECEIVED r_AGREED r_REJECTED r_CANCELLED r_SENT r_DISPUTED r_BROKER_DISPUTED r_ACCEPTED r_ACKNOWLEDGED r_MANAGER_REJECTED r_MANAGER_DISPUTED r_MANAGER_DISPUTED h0 n0 Z0 G_RECEIVED G_AGREED G_REJECTED G_CANCELLED G_SENT G_DISPUTED G_BROKER_DISPUTED G_ACCEPTED G_ACKNOWLEDGED G_MANAGER_REJECTED G_MANAGER_DISPUTED rfl) hZ (hw _ (List.mem_of_getElem? (i := 4) rfl)) (hw _ (List.mem_of_getElem? (i := 3) rfl)) (by decide) (by decide)) (g := (mkF m 9 #[iv v0, iv (4 : Int32), .unset, .unset] [(.int (4 : Int32))])) rfl (by rw [hml]; rfl) (argsL := [(.int (4 : Int32))]) (rest := []) (lenOf (by decide +kernel : parseMethodDescriptor "(I)Lcom/example/quayside/quayside/PaymentState;" = some ⟨[.int], some (.object "com/example/quayside/quayside/PaymentState")⟩) rfl) rfl (by show 2 * 0 + _ ≤ _; exact Nat.le_of_eq rfl) (hb hby at_9) (fun _ _ => ⟨rfl, e0, (by decide : 0 + 0 ≤ _), (by decide : 0 + 0 ≤ _)⟩)
            dsimp only [Pt.U, Pt.locs, Pt.cells, Pt.slots] at X126 l129 y130 z131 st132 hQ128
            subst l129 y130 z131
            obtain ⟨rfl, N133, e134⟩ := hQ128
            have N135 := Fr.app N0 N133
            refine own_bk (S' := (T122.setTop (mkF m 12 #[iv v0, iv (4 : Int32), .unset, .unset] [(.ref r_MANAGER_DISPUTED)]))) st132 ?_
            refine own_bk (S' := (T122.setTop (mkF m 13 #[iv v0, iv (4 : Int32), rv r_MANAGER_DISPUTED, .unset] []))) (fun t_ kont => XS.astoreN X126.here hx rfl (hb hby at_12) rfl rfl (l' := #[iv v0, iv (4 : Int32), rv r_MANAGER_DISPUTED, .unset]) rfl kont) ?_
            refine own_bk (S' := (T122.setTop (mkF m 14 #[iv v0, iv (4 : Int32), rv r_MANAGER_DISPUTED, .unset] [(.int (4 : Int32))]))) (fun t_ kont => XS.iloadN X126.here hx rfl (hb hby at_13) rfl kont) ?_
            refine own_bk (S' := (T122.setTop (mkF m 15 #[iv v0, iv (4 : Int32), rv r_MANAGER_DISPUTED, .unset] [(.int (3 : Int32)), (.int (4 : Int32))]))) (fun t_ kont => XS.iconst X126.here hx rfl (hb hby at_14) kont) ?_
            refine own_bk (S' := (T122.setTop (mkF m 18 #[iv v0, iv (4 : Int32), rv r_MANAGER_DISPUTED, .unset] []))) (fun t_ kont => XS.icmpNo X126.here hx rfl (hb hby at_15) rfl (feq (by decide : ¬ ((4 : Int32)) = ((3 : Int32)))).1 kont) ?_
            refine own_bk (S' := (T122.setTop (mkF m 19 #[iv v0, iv (4 : Int32), rv r_MANAGER_DISPUTED, .unset] [(.int (4 : Int32))]))) (fun t_ kont => XS.iloadN X126.here hx rfl (hb hby at_18) rfl kont) ?_
            refine own_bk (S' := (T122.setTop (mkF m 21 #[iv v0, iv (4 : Int32), rv r_MANAGER_DISPUTED, .unset] [(.int (6 : Int32)), (.int (4 : Int32))]))) (fun t_ kont => XS.bipush X126.here hx rfl (hb hby at_19) kont) ?_
            refine own_bk (S' := (T122.setTop (mkF m 24 #[iv v0, iv (4 : Int32), rv r_MANAGER_DISPUTED, .unset] []))) (fun t_ kont => XS.icmpNo X126.here hx rfl (hb hby at_21) rfl (feq (by decide : ¬ ((4 : Int32)) = ((6 : Int32)))).1 kont) ?_
            refine own_bk (S' := (T122.setTop (mkF m 25 #[iv v0, iv (4 : Int32), rv r_MANAGER_DISPUTED, .unset] [(.int (4 : Int32))]))) (fun t_ kont => XS.iloadN X126.here hx rfl (hb hby at_24) rfl kont) ?_
            refine own_bk (S' := (T122.setTop (mkF m 27 #[iv v0, iv (4 : Int32), rv r_MANAGER_DISPUTED, .unset] [(.int (7 : Int32)), (.int (4 : Int32))]))) (fun t_ kont => XS.bipush X126.here hx rfl (hb hby at_25) kont) ?_
            refine own_bk (S' := (T122.setTop (mkF m 34 #[iv v0, iv (4 : Int32), rv r_MANAGER_DISPUTED, .unset] []))) (fun t_ kont => XS.icmpYes X126.here hx rfl (pc0 := 27) (pc' := 34) rfl (hb hby at_27) rfl (feq (by decide : ¬ ((4 : Int32)) = ((7 : Int32)))).2 (by decide) (by decide) kont) ?_
            refine own_bk (S' := (T122.setTop (mkF m 35 #[iv v0, iv (4 : Int32), rv r_MANAGER_DISPUTED, .unset] [(.int (0 : Int32))]))) (fun t_ kont => XS.iconst X126.here hx rfl (hb hby at_34) kont) ?_
            refine own_bk (S' := (T122.setTop (mkF m 36 #[iv v0, iv (4 : Int32), rv r_MANAGER_DISPUTED, iv (0 : Int32)] []))) (fun t_ kont => XS.istoreN X126.here hx rfl (hb hby at_35) rfl (l' := #[iv v0, iv (4 : Int32), rv r_MANAGER_DISPUTED, iv (0 : Int32)]) rfl kont) ?_
            refine own_bk (S' := (T122.setTop (mkF m 37 #[iv v0, iv (4 : Int32), rv r_MANAGER_DISPUTED, iv (0 : Int32)] [(.ref r_MANAGER_DISPUTED)]))) (fun t_ kont => XS.aloadN X126.here hx rfl (hb hby at_36) rfl rfl kont) ?_
            obtain ⟨cqq147, kqq147, q147a, q147b, q147c⟩ := isOf hZ e134 G_MANAGER_DISPUTED.2.1
            obtain ⟨_, _, ⟨T136, L137, k138, n139⟩, -, X140, ⟨Lc141, hQ142, l143, y144, z145⟩, st146⟩ := X126.virtualBack hx (y := (⟨"com/example/quayside/quayside/PaymentState", "isFinal", "()Z"⟩ : MethodName)) (z := (⟨"com/example/quayside/quayside/PaymentState", "isFinal", "()Z"⟩ : MethodName)) hown (mvT hZ (hw _ (List.mem_of_getElem? (i := 8) rfl))) (mvT hZ (hw _ (List.mem_of_getElem? (i := 9) rfl))) (notFace_of_selects (args := #[]) (mvT hZ (hw _ (List.mem_of_getElem? (i := 11) rfl)))) (mvT hZ (hw _ (List.mem_of_getElem? (i := 11) rfl))) (mvT hZ (hw _ (List.mem_of_getElem? (i := 10) rfl))) (by decide) (backOf (W := 0) (rm2 l Z a0 hw [] r_MANAGER_DISPUTED r_AGREED r_REJECTED r_CANCELLED (0 : Int32) h0 n0 Z0 G_AGREED.1 G_REJECTED.1 G_CANCELLED.1 (by simp [(G_MANAGER_DISPUTED.ne G_AGREED (by decide)), (G_MANAGER_DISPUTED.ne G_REJECTED (by decide)), (G_MANAGER_DISPUTED.ne G_CANCELLED (by decide))])) hZ (hw _ (List.mem_of_getElem? (i := 12) rfl)) (hw _ (List.mem_of_getElem? (i := 6) rfl)) (by decide) (by decide)) q147a q147c (g := (mkF m 37 #[iv v0, iv (4 : Int32), rv r_MANAGER_DISPUTED, iv (0 : Int32)] [(.ref r_MANAGER_DISPUTED)])) rfl (by rw [hml]; rfl) (Steps.refl _) (argsL := []) (rest := []) (lenOf (by decide +kernel : parseMethodDescriptor "()Z" = some ⟨[], some .boolean⟩) rfl) rfl (by show 2 * 0 + _ ≤ _; exact Nat.le_of_eq rfl) (hb hby at_37) (fun _ _ => ⟨rfl, e134, (by decide : 0 + 0 ≤ _), (by decide : 0 + 0 ≤ _)⟩)
            dsimp only [Pt.U, Pt.locs, Pt.cells, Pt.slots] at X140 l143 y144 z145 st146 hQ142
            subst l143 y144 z145
            obtain ⟨rfl, N148, e149⟩ := hQ142
            have N150 := Fr.app N135 N148
            refine own_tr (S' := (T136.setTop (mkF m 40 #[iv v0, iv (4 : Int32), rv r_MANAGER_DISPUTED, iv (0 : Int32)] [(.int (0 : Int32))]))) st146 ?_
            refine own_bk (S' := (T136.setTop (mkF m 41 #[iv v0, iv (4 : Int32), rv r_MANAGER_DISPUTED, iv (0 : Int32)] [(.int (0 : Int32)), (.int (0 : Int32))]))) (fun t_ kont => XS.iloadN X140.here hx rfl (hb hby at_40) rfl kont) ?_
            refine own_bk (S' := (T136.setTop (mkF m 44 #[iv v0, iv (4 : Int32), rv r_MANAGER_DISPUTED, iv (0 : Int32)] []))) (fun t_ kont => XS.icmpNo X140.here hx rfl (hb hby at_41) rfl (teq (by decide : ((0 : Int32)) = ((0 : Int32)))).2 kont) ?_
            refine own_bk (S' := (T136.setTop (mkF m 45 #[iv v0, iv (4 : Int32), rv r_MANAGER_DISPUTED, iv (0 : Int32)] [(.int (1 : Int32))]))) (fun t_ kont => XS.iconst X140.here hx rfl (hb hby at_44) kont) ?_
            refine own_bk (S' := (T136.setTop (mkF m 49 #[iv v0, iv (4 : Int32), rv r_MANAGER_DISPUTED, iv (0 : Int32)] [(.int (1 : Int32))]))) (fun t_ kont => XS.goto X140.here hx rfl (pc0 := 45) (pc' := 49) rfl (hb hby at_45) (by decide) (by decide) kont) ?_
            exact own_retN X140 hx hlk (t := .boolean) (w := (1 : Int32)) Bd.returns (by simp) (hb hby at_49) rfl ⟨rfl, N150⟩ (by decide) (by decide)
          · by_cases hc151 : k = (5 : Int32)
            · subst hc151
              obtain ⟨_, _, ⟨T152, L153, k154, n155⟩, -, X156, ⟨Lc157, hQ158, l159, y160, z161⟩, st162⟩ := Jvm.LawKit.callS X0 hx (y := (⟨"com/example/quayside/quayside/PaymentStateIsFinalPinLaw", "pick", "(I)Lcom/example/quayside/quayside/PaymentState;"⟩ : MethodName)) hown (mvT hZ (hw _ (List.mem_of_getElem? (i := 1) rfl))) (mvT hZ (hw _ (List.mem_of_getElem? (i := 2) rfl))) (mvT hZ (hw _ (List.mem_of_getElem? (i := 3) rfl))) (mvT hZ (hw _ (List.mem_of_getElem? (i := 4) rfl))) (by decide) (backOf (W := 0) (rm1 l Z a0 hw [] (5 : Int32) r_RECEIVED r_AGREED r_REJECTED r_CANCELLED r_SENT r_DISPUTED r_BROKER_DISPUTED r_ACCEPTED r_ACKNOWLEDGED r_MANAGER_REJECTED r_MANAGER_DISPUTED r_MANAGER_REJECTED h0 n0 Z0 G_RECEIVED G_AGREED G_REJECTED G_CANCELLED G_SENT G_DISPUTED G_BROKER_DISPUTED G_ACCEPTED G_ACKNOWLEDGED G_MANAGER_REJECTED G_MANAGER_DISPUTED rfl) hZ (hw _ (List.mem_of_getElem? (i := 4) rfl)) (hw _ (List.mem_of_getElem? (i := 3) rfl)) (by decide) (by decide)) (g := (mkF m 9 #[iv v0, iv (5 : Int32), .unset, .unset] [(.int (5 : Int32))])) rfl (by rw [hml]; rfl) (argsL := [(.int (5 : Int32))]) (rest := []) (lenOf (by decide +kernel : parseMethodDescriptor "(I)Lcom/example/quayside/quayside/PaymentState;" = some ⟨[.int], some (.object "com/example/quayside/quayside/PaymentState")⟩) rfl) rfl (by show 2 * 0 + _ ≤ _; exact Nat.le_of_eq rfl) (hb hby at_9) (fun _ _ => ⟨rfl, e0, (by decide : 0 + 0 ≤ _), (by decide : 0 + 0 ≤ _)⟩)
              dsimp only [Pt.U, Pt.locs, Pt.cells, Pt.slots] at X156 l159 y160 z161 st162 hQ158
              subst l159 y160 z161
              obtain ⟨rfl, N163, e164⟩ := hQ158
              have N165 := Fr.app N0 N163
              refine own_bk (S' := (T152.setTop (mkF m 12 #[iv v0, iv (5 : Int32), .unset, .unset] [(.ref r_MANAGER_REJECTED)]))) st162 ?_
              refine own_bk (S' := (T152.setTop (mkF m 13 #[iv v0, iv (5 : Int32), rv r_MANAGER_REJECTED, .unset] []))) (fun t_ kont => XS.astoreN X156.here hx rfl (hb hby at_12) rfl rfl (l' := #[iv v0, iv (5 : Int32), rv r_MANAGER_REJECTED, .unset]) rfl kont) ?_
              refine own_bk (S' := (T152.setTop (mkF m 14 #[iv v0, iv (5 : Int32), rv r_MANAGER_REJECTED, .unset] [(.int (5 : Int32))]))) (fun t_ kont => XS.iloadN X156.here hx rfl (hb hby at_13) rfl kont) ?_
              refine own_bk (S' := (T152.setTop (mkF m 15 #[iv v0, iv (5 : Int32), rv r_MANAGER_REJECTED, .unset] [(.int (3 : Int32)), (.int (5 : Int32))]))) (fun t_ kont => XS.iconst X156.here hx rfl (hb hby at_14) kont) ?_
              refine own_bk (S' := (T152.setTop (mkF m 18 #[iv v0, iv (5 : Int32), rv r_MANAGER_REJECTED, .unset] []))) (fun t_ kont => XS.icmpNo X156.here hx rfl (hb hby at_15) rfl (feq (by decide : ¬ ((5 : Int32)) = ((3 : Int32)))).1 kont) ?_
              refine own_bk (S' := (T152.setTop (mkF m 19 #[iv v0, iv (5 : Int32), rv r_MANAGER_REJECTED, .unset] [(.int (5 : Int32))]))) (fun t_ kont => XS.iloadN X156.here hx rfl (hb hby at_18) rfl kont) ?_
              refine own_bk (S' := (T152.setTop (mkF m 21 #[iv v0, iv (5 : Int32), rv r_MANAGER_REJECTED, .unset] [(.int (6 : Int32)), (.int (5 : Int32))]))) (fun t_ kont => XS.bipush X156.here hx rfl (hb hby at_19) kont) ?_
              refine own_bk (S' := (T152.setTop (mkF m 24 #[iv v0, iv (5 : Int32), rv r_MANAGER_REJECTED, .unset] []))) (fun t_ kont => XS.icmpNo X156.here hx rfl (hb hby at_21) rfl (feq (by decide : ¬ ((5 : Int32)) = ((6 : Int32)))).1 kont) ?_
              refine own_bk (S' := (T152.setTop (mkF m 25 #[iv v0, iv (5 : Int32), rv r_MANAGER_REJECTED, .unset] [(.int (5 : Int32))]))) (fun t_ kont => XS.iloadN X156.here hx rfl (hb hby at_24) rfl kont) ?_
              refine own_bk (S' := (T152.setTop (mkF m 27 #[iv v0, iv (5 : Int32), rv r_MANAGER_REJECTED, .unset] [(.int (7 : Int32)), (.int (5 : Int32))]))) (fun t_ kont => XS.bipush X156.here hx rfl (hb hby at_25) kont) ?_
              refine own_bk (S' := (T152.setTop (mkF m 34 #[iv v0, iv (5 : Int32), rv r_MANAGER_REJECTED, .unset] []))) (fun t_ kont => XS.icmpYes X156.here hx rfl (pc0 := 27) (pc' := 34) rfl (hb hby at_27) rfl (feq (by decide : ¬ ((5 : Int32)) = ((7 : Int32)))).2 (by decide) (by decide) kont) ?_
              refine own_bk (S' := (T152.setTop (mkF m 35 #[iv v0, iv (5 : Int32), rv r_MANAGER_REJECTED, .unset] [(.int (0 : Int32))]))) (fun t_ kont => XS.iconst X156.here hx rfl (hb hby at_34) kont) ?_
              refine own_bk (S' := (T152.setTop (mkF m 36 #[iv v0, iv (5 : Int32), rv r_MANAGER_REJECTED, iv (0 : Int32)] []))) (fun t_ kont => XS.istoreN X156.here hx rfl (hb hby at_35) rfl (l' := #[iv v0, iv (5 : Int32), rv r_MANAGER_REJECTED, iv (0 : Int32)]) rfl kont) ?_
              refine own_bk (S' := (T152.setTop (mkF m 37 #[iv v0, iv (5 : Int32), rv r_MANAGER_REJECTED, iv (0 : Int32)] [(.ref r_MANAGER_REJECTED)]))) (fun t_ kont => XS.aloadN X156.here hx rfl (hb hby at_36) rfl rfl kont) ?_
              obtain ⟨cqq177, kqq177, q177a, q177b, q177c⟩ := isOf hZ e164 G_MANAGER_REJECTED.2.1
              obtain ⟨_, _, ⟨T166, L167, k168, n169⟩, -, X170, ⟨Lc171, hQ172, l173, y174, z175⟩, st176⟩ := X156.virtualBack hx (y := (⟨"com/example/quayside/quayside/PaymentState", "isFinal", "()Z"⟩ : MethodName)) (z := (⟨"com/example/quayside/quayside/PaymentState", "isFinal", "()Z"⟩ : MethodName)) hown (mvT hZ (hw _ (List.mem_of_getElem? (i := 8) rfl))) (mvT hZ (hw _ (List.mem_of_getElem? (i := 9) rfl))) (notFace_of_selects (args := #[]) (mvT hZ (hw _ (List.mem_of_getElem? (i := 11) rfl)))) (mvT hZ (hw _ (List.mem_of_getElem? (i := 11) rfl))) (mvT hZ (hw _ (List.mem_of_getElem? (i := 10) rfl))) (by decide) (backOf (W := 0) (rm2 l Z a0 hw [] r_MANAGER_REJECTED r_AGREED r_REJECTED r_CANCELLED (0 : Int32) h0 n0 Z0 G_AGREED.1 G_REJECTED.1 G_CANCELLED.1 (by simp [(G_MANAGER_REJECTED.ne G_AGREED (by decide)), (G_MANAGER_REJECTED.ne G_REJECTED (by decide)), (G_MANAGER_REJECTED.ne G_CANCELLED (by decide))])) hZ (hw _ (List.mem_of_getElem? (i := 12) rfl)) (hw _ (List.mem_of_getElem? (i := 6) rfl)) (by decide) (by decide)) q177a q177c (g := (mkF m 37 #[iv v0, iv (5 : Int32), rv r_MANAGER_REJECTED, iv (0 : Int32)] [(.ref r_MANAGER_REJECTED)])) rfl (by rw [hml]; rfl) (Steps.refl _) (argsL := []) (rest := []) (lenOf (by decide +kernel : parseMethodDescriptor "()Z" = some ⟨[], some .boolean⟩) rfl) rfl (by show 2 * 0 + _ ≤ _; exact Nat.le_of_eq rfl) (hb hby at_37) (fun _ _ => ⟨rfl, e164, (by decide : 0 + 0 ≤ _), (by decide : 0 + 0 ≤ _)⟩)
              dsimp only [Pt.U, Pt.locs, Pt.cells, Pt.slots] at X170 l173 y174 z175 st176 hQ172
              subst l173 y174 z175
              obtain ⟨rfl, N178, e179⟩ := hQ172
              have N180 := Fr.app N165 N178
              refine own_tr (S' := (T166.setTop (mkF m 40 #[iv v0, iv (5 : Int32), rv r_MANAGER_REJECTED, iv (0 : Int32)] [(.int (0 : Int32))]))) st176 ?_
              refine own_bk (S' := (T166.setTop (mkF m 41 #[iv v0, iv (5 : Int32), rv r_MANAGER_REJECTED, iv (0 : Int32)] [(.int (0 : Int32)), (.int (0 : Int32))]))) (fun t_ kont => XS.iloadN X170.here hx rfl (hb hby at_40) rfl kont) ?_
              refine own_bk (S' := (T166.setTop (mkF m 44 #[iv v0, iv (5 : Int32), rv r_MANAGER_REJECTED, iv (0 : Int32)] []))) (fun t_ kont => XS.icmpNo X170.here hx rfl (hb hby at_41) rfl (teq (by decide : ((0 : Int32)) = ((0 : Int32)))).2 kont) ?_
              refine own_bk (S' := (T166.setTop (mkF m 45 #[iv v0, iv (5 : Int32), rv r_MANAGER_REJECTED, iv (0 : Int32)] [(.int (1 : Int32))]))) (fun t_ kont => XS.iconst X170.here hx rfl (hb hby at_44) kont) ?_
              refine own_bk (S' := (T166.setTop (mkF m 49 #[iv v0, iv (5 : Int32), rv r_MANAGER_REJECTED, iv (0 : Int32)] [(.int (1 : Int32))]))) (fun t_ kont => XS.goto X170.here hx rfl (pc0 := 45) (pc' := 49) rfl (hb hby at_45) (by decide) (by decide) kont) ?_
              exact own_retN X170 hx hlk (t := .boolean) (w := (1 : Int32)) Bd.returns (by simp) (hb hby at_49) rfl ⟨rfl, N180⟩ (by decide) (by decide)
            · by_cases hc181 : k = (6 : Int32)
              · subst hc181
                obtain ⟨_, _, ⟨T182, L183, k184, n185⟩, -, X186, ⟨Lc187, hQ188, l189, y190, z191⟩, st192⟩ := Jvm.LawKit.callS X0 hx (y := (⟨"com/example/quayside/quayside/PaymentStateIsFinalPinLaw", "pick", "(I)Lcom/example/quayside/quayside/PaymentState;"⟩ : MethodName)) hown (mvT hZ (hw _ (List.mem_of_getElem? (i := 1) rfl))) (mvT hZ (hw _ (List.mem_of_getElem? (i := 2) rfl))) (mvT hZ (hw _ (List.mem_of_getElem? (i := 3) rfl))) (mvT hZ (hw _ (List.mem_of_getElem? (i := 4) rfl))) (by decide) (backOf (W := 0) (rm1 l Z a0 hw [] (6 : Int32) r_RECEIVED r_AGREED r_REJECTED r_CANCELLED r_SENT r_DISPUTED r_BROKER_DISPUTED r_ACCEPTED r_ACKNOWLEDGED r_MANAGER_REJECTED r_MANAGER_DISPUTED r_REJECTED h0 n0 Z0 G_RECEIVED G_AGREED G_REJECTED G_CANCELLED G_SENT G_DISPUTED G_BROKER_DISPUTED G_ACCEPTED G_ACKNOWLEDGED G_MANAGER_REJECTED G_MANAGER_DISPUTED rfl) hZ (hw _ (List.mem_of_getElem? (i := 4) rfl)) (hw _ (List.mem_of_getElem? (i := 3) rfl)) (by decide) (by decide)) (g := (mkF m 9 #[iv v0, iv (6 : Int32), .unset, .unset] [(.int (6 : Int32))])) rfl (by rw [hml]; rfl) (argsL := [(.int (6 : Int32))]) (rest := []) (lenOf (by decide +kernel : parseMethodDescriptor "(I)Lcom/example/quayside/quayside/PaymentState;" = some ⟨[.int], some (.object "com/example/quayside/quayside/PaymentState")⟩) rfl) rfl (by show 2 * 0 + _ ≤ _; exact Nat.le_of_eq rfl) (hb hby at_9) (fun _ _ => ⟨rfl, e0, (by decide : 0 + 0 ≤ _), (by decide : 0 + 0 ≤ _)⟩)
                dsimp only [Pt.U, Pt.locs, Pt.cells, Pt.slots] at X186 l189 y190 z191 st192 hQ188
                subst l189 y190 z191
                obtain ⟨rfl, N193, e194⟩ := hQ188
                have N195 := Fr.app N0 N193
                refine own_bk (S' := (T182.setTop (mkF m 12 #[iv v0, iv (6 : Int32), .unset, .unset] [(.ref r_REJECTED)]))) st192 ?_
                refine own_bk (S' := (T182.setTop (mkF m 13 #[iv v0, iv (6 : Int32), rv r_REJECTED, .unset] []))) (fun t_ kont => XS.astoreN X186.here hx rfl (hb hby at_12) rfl rfl (l' := #[iv v0, iv (6 : Int32), rv r_REJECTED, .unset]) rfl kont) ?_
                refine own_bk (S' := (T182.setTop (mkF m 14 #[iv v0, iv (6 : Int32), rv r_REJECTED, .unset] [(.int (6 : Int32))]))) (fun t_ kont => XS.iloadN X186.here hx rfl (hb hby at_13) rfl kont) ?_
                refine own_bk (S' := (T182.setTop (mkF m 15 #[iv v0, iv (6 : Int32), rv r_REJECTED, .unset] [(.int (3 : Int32)), (.int (6 : Int32))]))) (fun t_ kont => XS.iconst X186.here hx rfl (hb hby at_14) kont) ?_
                refine own_bk (S' := (T182.setTop (mkF m 18 #[iv v0, iv (6 : Int32), rv r_REJECTED, .unset] []))) (fun t_ kont => XS.icmpNo X186.here hx rfl (hb hby at_15) rfl (feq (by decide : ¬ ((6 : Int32)) = ((3 : Int32)))).1 kont) ?_
                refine own_bk (S' := (T182.setTop (mkF m 19 #[iv v0, iv (6 : Int32), rv r_REJECTED, .unset] [(.int (6 : Int32))]))) (fun t_ kont => XS.iloadN X186.here hx rfl (hb hby at_18) rfl kont) ?_
                refine own_bk (S' := (T182.setTop (mkF m 21 #[iv v0, iv (6 : Int32), rv r_REJECTED, .unset] [(.int (6 : Int32)), (.int (6 : Int32))]))) (fun t_ kont => XS.bipush X186.here hx rfl (hb hby at_19) kont) ?_
                refine own_bk (S' := (T182.setTop (mkF m 30 #[iv v0, iv (6 : Int32), rv r_REJECTED, .unset] []))) (fun t_ kont => XS.icmpYes X186.here hx rfl (pc0 := 21) (pc' := 30) rfl (hb hby at_21) rfl (teq (by decide : ((6 : Int32)) = ((6 : Int32)))).1 (by decide) (by decide) kont) ?_
                refine own_bk (S' := (T182.setTop (mkF m 31 #[iv v0, iv (6 : Int32), rv r_REJECTED, .unset] [(.int (1 : Int32))]))) (fun t_ kont => XS.iconst X186.here hx rfl (hb hby at_30) kont) ?_
                refine own_bk (S' := (T182.setTop (mkF m 35 #[iv v0, iv (6 : Int32), rv r_REJECTED, .unset] [(.int (1 : Int32))]))) (fun t_ kont => XS.goto X186.here hx rfl (pc0 := 31) (pc' := 35) rfl (hb hby at_31) (by decide) (by decide) kont) ?_
                refine own_bk (S' := (T182.setTop (mkF m 36 #[iv v0, iv (6 : Int32), rv r_REJECTED, iv (1 : Int32)] []))) (fun t_ kont => XS.istoreN X186.here hx rfl (hb hby at_35) rfl (l' := #[iv v0, iv (6 : Int32), rv r_REJECTED, iv (1 : Int32)]) rfl kont) ?_
                refine own_bk (S' := (T182.setTop (mkF m 37 #[iv v0, iv (6 : Int32), rv r_REJECTED, iv (1 : Int32)] [(.ref r_REJECTED)]))) (fun t_ kont => XS.aloadN X186.here hx rfl (hb hby at_36) rfl rfl kont) ?_
                obtain ⟨cqq207, kqq207, q207a, q207b, q207c⟩ := isOf hZ e194 G_REJECTED.2.1
                obtain ⟨_, _, ⟨T196, L197, k198, n199⟩, -, X200, ⟨Lc201, hQ202, l203, y204, z205⟩, st206⟩ := X186.virtualBack hx (y := (⟨"com/example/quayside/quayside/PaymentState", "isFinal", "()Z"⟩ : MethodName)) (z := (⟨"com/example/quayside/quayside/PaymentState", "isFinal", "()Z"⟩ : MethodName)) hown (mvT hZ (hw _ (List.mem_of_getElem? (i := 8) rfl))) (mvT hZ (hw _ (List.mem_of_getElem? (i := 9) rfl))) (notFace_of_selects (args := #[]) (mvT hZ (hw _ (List.mem_of_getElem? (i := 11) rfl)))) (mvT hZ (hw _ (List.mem_of_getElem? (i := 11) rfl))) (mvT hZ (hw _ (List.mem_of_getElem? (i := 10) rfl))) (by decide) (backOf (W := 0) (rm2 l Z a0 hw [] r_REJECTED r_AGREED r_REJECTED r_CANCELLED (1 : Int32) h0 n0 Z0 G_AGREED.1 G_REJECTED.1 G_CANCELLED.1 (by simp [(G_REJECTED.ne G_AGREED (by decide)), (G_REJECTED.ne G_CANCELLED (by decide))])) hZ (hw _ (List.mem_of_getElem? (i := 12) rfl)) (hw _ (List.mem_of_getElem? (i := 6) rfl)) (by decide) (by decide)) q207a q207c (g := (mkF m 37 #[iv v0, iv (6 : Int32), rv r_REJECTED, iv (1 : Int32)] [(.ref r_REJECTED)])) rfl (by rw [hml]; rfl) (Steps.refl _) (argsL := []) (rest := []) (lenOf (by decide +kernel : parseMethodDescriptor "()Z" = some ⟨[], some .boolean⟩) rfl) rfl (by show 2 * 0 + _ ≤ _; exact Nat.le_of_eq rfl) (hb hby at_37) (fun _ _ => ⟨rfl, e194, (by decide : 0 + 0 ≤ _), (by decide : 0 + 0 ≤ _)⟩)
                dsimp only [Pt.U, Pt.locs, Pt.cells, Pt.slots] at X200 l203 y204 z205 st206 hQ202
                subst l203 y204 z205
                obtain ⟨rfl, N208, e209⟩ := hQ202
                have N210 := Fr.app N195 N208
                refine own_tr (S' := (T196.setTop (mkF m 40 #[iv v0, iv (6 : Int32), rv r_REJECTED, iv (1 : Int32)] [(.int (1 : Int32))]))) st206 ?_
                refine own_bk (S' := (T196.setTop (mkF m 41 #[iv v0, iv (6 : Int32), rv r_REJECTED, iv (1 : Int32)] [(.int (1 : Int32)), (.int (1 : Int32))]))) (fun t_ kont => XS.iloadN X200.here hx rfl (hb hby at_40) rfl kont) ?_
                refine own_bk (S' := (T196.setTop (mkF m 44 #[iv v0, iv (6 : Int32), rv r_REJECTED, iv (1 : Int32)] []))) (fun t_ kont => XS.icmpNo X200.here hx rfl (hb hby at_41) rfl (teq (by decide : ((1 : Int32)) = ((1 : Int32)))).2 kont) ?_
                refine own_bk (S' := (T196.setTop (mkF m 45 #[iv v0, iv (6 : Int32), rv r_REJECTED, iv (1 : Int32)] [(.int (1 : Int32))]))) (fun t_ kont => XS.iconst X200.here hx rfl (hb hby at_44) kont) ?_
                refine own_bk (S' := (T196.setTop (mkF m 49 #[iv v0, iv (6 : Int32), rv r_REJECTED, iv (1 : Int32)] [(.int (1 : Int32))]))) (fun t_ kont => XS.goto X200.here hx rfl (pc0 := 45) (pc' := 49) rfl (hb hby at_45) (by decide) (by decide) kont) ?_
                exact own_retN X200 hx hlk (t := .boolean) (w := (1 : Int32)) Bd.returns (by simp) (hb hby at_49) rfl ⟨rfl, N210⟩ (by decide) (by decide)
              · by_cases hc211 : k = (7 : Int32)
                · subst hc211
                  obtain ⟨_, _, ⟨T212, L213, k214, n215⟩, -, X216, ⟨Lc217, hQ218, l219, y220, z221⟩, st222⟩ := Jvm.LawKit.callS X0 hx (y := (⟨"com/example/quayside/quayside/PaymentStateIsFinalPinLaw", "pick", "(I)Lcom/example/quayside/quayside/PaymentState;"⟩ : MethodName)) hown (mvT hZ (hw _ (List.mem_of_getElem? (i := 1) rfl))) (mvT hZ (hw _ (List.mem_of_getElem? (i := 2) rfl))) (mvT hZ (hw _ (List.mem_of_getElem? (i := 3) rfl))) (mvT hZ (hw _ (List.mem_of_getElem? (i := 4) rfl))) (by decide) (backOf (W := 0) (rm1 l Z a0 hw [] (7 : Int32) r_RECEIVED r_AGREED r_REJECTED r_CANCELLED r_SENT r_DISPUTED r_BROKER_DISPUTED r_ACCEPTED r_ACKNOWLEDGED r_MANAGER_REJECTED r_MANAGER_DISPUTED r_CANCELLED h0 n0 Z0 G_RECEIVED G_AGREED G_REJECTED G_CANCELLED G_SENT G_DISPUTED G_BROKER_DISPUTED G_ACCEPTED G_ACKNOWLEDGED G_MANAGER_REJECTED G_MANAGER_DISPUTED rfl) hZ (hw _ (List.mem_of_getElem? (i := 4) rfl)) (hw _ (List.mem_of_getElem? (i := 3) rfl)) (by decide) (by decide)) (g := (mkF m 9 #[iv v0, iv (7 : Int32), .unset, .unset] [(.int (7 : Int32))])) rfl (by rw [hml]; rfl) (argsL := [(.int (7 : Int32))]) (rest := []) (lenOf (by decide +kernel : parseMethodDescriptor "(I)Lcom/example/quayside/quayside/PaymentState;" = some ⟨[.int], some (.object "com/example/quayside/quayside/PaymentState")⟩) rfl) rfl (by show 2 * 0 + _ ≤ _; exact Nat.le_of_eq rfl) (hb hby at_9) (fun _ _ => ⟨rfl, e0, (by decide : 0 + 0 ≤ _), (by decide : 0 + 0 ≤ _)⟩)
                  dsimp only [Pt.U, Pt.locs, Pt.cells, Pt.slots] at X216 l219 y220 z221 st222 hQ218
                  subst l219 y220 z221
                  obtain ⟨rfl, N223, e224⟩ := hQ218
                  have N225 := Fr.app N0 N223
                  refine own_bk (S' := (T212.setTop (mkF m 12 #[iv v0, iv (7 : Int32), .unset, .unset] [(.ref r_CANCELLED)]))) st222 ?_
                  refine own_bk (S' := (T212.setTop (mkF m 13 #[iv v0, iv (7 : Int32), rv r_CANCELLED, .unset] []))) (fun t_ kont => XS.astoreN X216.here hx rfl (hb hby at_12) rfl rfl (l' := #[iv v0, iv (7 : Int32), rv r_CANCELLED, .unset]) rfl kont) ?_
                  refine own_bk (S' := (T212.setTop (mkF m 14 #[iv v0, iv (7 : Int32), rv r_CANCELLED, .unset] [(.int (7 : Int32))]))) (fun t_ kont => XS.iloadN X216.here hx rfl (hb hby at_13) rfl kont) ?_
                  refine own_bk (S' := (T212.setTop (mkF m 15 #[iv v0, iv (7 : Int32), rv r_CANCELLED, .unset] [(.int (3 : Int32)), (.int (7 : Int32))]))) (fun t_ kont => XS.iconst X216.here hx rfl (hb hby at_14) kont) ?_
                  refine own_bk (S' := (T212.setTop (mkF m 18 #[iv v0, iv (7 : Int32), rv r_CANCELLED, .unset] []))) (fun t_ kont => XS.icmpNo X216.here hx rfl (hb hby at_15) rfl (feq (by decide : ¬ ((7 : Int32)) = ((3 : Int32)))).1 kont) ?_
                  refine own_bk (S' := (T212.setTop (mkF m 19 #[iv v0, iv (7 : Int32), rv r_CANCELLED, .unset] [(.int (7 : Int32))]))) (fun t_ kont => XS.iloadN X216.here hx rfl (hb hby at_18) rfl kont) ?_
                  refine own_bk (S' := (T212.setTop (mkF m 21 #[iv v0, iv (7 : Int32), rv r_CANCELLED, .unset] [(.int (6 : Int32)), (.int (7 : Int32))]))) (fun t_ kont => XS.bipush X216.here hx rfl (hb hby at_19) kont) ?_
                  refine own_bk (S' := (T212.setTop (mkF m 24 #[iv v0, iv (7 : Int32), rv r_CANCELLED, .unset] []))) (fun t_ kont => XS.icmpNo X216.here hx rfl (hb hby at_21) rfl (feq (by decide : ¬ ((7 : Int32)) = ((6 : Int32)))).1 kont) ?_
                  refine own_bk (S' := (T212.setTop (mkF m 25 #[iv v0, iv (7 : Int32), rv r_CANCELLED, .unset] [(.int (7 : Int32))]))) (fun t_ kont => XS.iloadN X216.here hx rfl (hb hby at_24) rfl kont) ?_
                  refine own_bk (S' := (T212.setTop (mkF m 27 #[iv v0, iv (7 : Int32), rv r_CANCELLED, .unset] [(.int (7 : Int32)), (.int (7 : Int32))]))) (fun t_ kont => XS.bipush X216.here hx rfl (hb hby at_25) kont) ?_
                  refine own_bk (S' := (T212.setTop (mkF m 30 #[iv v0, iv (7 : Int32), rv r_CANCELLED, .unset] []))) (fun t_ kont => XS.icmpNo X216.here hx rfl (hb hby at_27) rfl (teq (by decide : ((7 : Int32)) = ((7 : Int32)))).2 kont) ?_
                  refine own_bk (S' := (T212.setTop (mkF m 31 #[iv v0, iv (7 : Int32), rv r_CANCELLED, .unset] [(.int (1 : Int32))]))) (fun t_ kont => XS.iconst X216.here hx rfl (hb hby at_30) kont) ?_
                  refine own_bk (S' := (T212.setTop (mkF m 35 #[iv v0, iv (7 : Int32), rv r_CANCELLED, .unset] [(.int (1 : Int32))]))) (fun t_ kont => XS.goto X216.here hx rfl (pc0 := 31) (pc' := 35) rfl (hb hby at_31) (by decide) (by decide) kont) ?_
                  refine own_bk (S' := (T212.setTop (mkF m 36 #[iv v0, iv (7 : Int32), rv r_CANCELLED, iv (1 : Int32)] []))) (fun t_ kont => XS.istoreN X216.here hx rfl (hb hby at_35) rfl (l' := #[iv v0, iv (7 : Int32), rv r_CANCELLED, iv (1 : Int32)]) rfl kont) ?_
                  refine own_bk (S' := (T212.setTop (mkF m 37 #[iv v0, iv (7 : Int32), rv r_CANCELLED, iv (1 : Int32)] [(.ref r_CANCELLED)]))) (fun t_ kont => XS.aloadN X216.here hx rfl (hb hby at_36) rfl rfl kont) ?_
                  obtain ⟨cqq237, kqq237, q237a, q237b, q237c⟩ := isOf hZ e224 G_CANCELLED.2.1
                  obtain ⟨_, _, ⟨T226, L227, k228, n229⟩, -, X230, ⟨Lc231, hQ232, l233, y234, z235⟩, st236⟩ := X216.virtualBack hx (y := (⟨"com/example/quayside/quayside/PaymentState", "isFinal", "()Z"⟩ : MethodName)) (z := (⟨"com/example/quayside/quayside/PaymentState", "isFinal", "()Z"⟩ : MethodName)) hown (mvT hZ (hw _ (List.mem_of_getElem? (i := 8) rfl))) (mvT hZ (hw _ (List.mem_of_getElem? (i := 9) rfl))) (notFace_of_selects (args := #[]) (mvT hZ (hw _ (List.mem_of_getElem? (i := 11) rfl)))) (mvT hZ (hw _ (List.mem_of_getElem? (i := 11) rfl))) (mvT hZ (hw _ (List.mem_of_getElem? (i := 10) rfl))) (by decide) (backOf (W := 0) (rm2 l Z a0 hw [] r_CANCELLED r_AGREED r_REJECTED r_CANCELLED (1 : Int32) h0 n0 Z0 G_AGREED.1 G_REJECTED.1 G_CANCELLED.1 (by simp [(G_CANCELLED.ne G_AGREED (by decide)), (G_CANCELLED.ne G_REJECTED (by decide))])) hZ (hw _ (List.mem_of_getElem? (i := 12) rfl)) (hw _ (List.mem_of_getElem? (i := 6) rfl)) (by decide) (by decide)) q237a q237c (g := (mkF m 37 #[iv v0, iv (7 : Int32), rv r_CANCELLED, iv (1 : Int32)] [(.ref r_CANCELLED)])) rfl (by rw [hml]; rfl) (Steps.refl _) (argsL := []) (rest := []) (lenOf (by decide +kernel : parseMethodDescriptor "()Z" = some ⟨[], some .boolean⟩) rfl) rfl (by show 2 * 0 + _ ≤ _; exact Nat.le_of_eq rfl) (hb hby at_37) (fun _ _ => ⟨rfl, e224, (by decide : 0 + 0 ≤ _), (by decide : 0 + 0 ≤ _)⟩)
                  dsimp only [Pt.U, Pt.locs, Pt.cells, Pt.slots] at X230 l233 y234 z235 st236 hQ232
                  subst l233 y234 z235
                  obtain ⟨rfl, N238, e239⟩ := hQ232
                  have N240 := Fr.app N225 N238
                  refine own_tr (S' := (T226.setTop (mkF m 40 #[iv v0, iv (7 : Int32), rv r_CANCELLED, iv (1 : Int32)] [(.int (1 : Int32))]))) st236 ?_
                  refine own_bk (S' := (T226.setTop (mkF m 41 #[iv v0, iv (7 : Int32), rv r_CANCELLED, iv (1 : Int32)] [(.int (1 : Int32)), (.int (1 : Int32))]))) (fun t_ kont => XS.iloadN X230.here hx rfl (hb hby at_40) rfl kont) ?_
                  refine own_bk (S' := (T226.setTop (mkF m 44 #[iv v0, iv (7 : Int32), rv r_CANCELLED, iv (1 : Int32)] []))) (fun t_ kont => XS.icmpNo X230.here hx rfl (hb hby at_41) rfl (teq (by decide : ((1 : Int32)) = ((1 : Int32)))).2 kont) ?_
                  refine own_bk (S' := (T226.setTop (mkF m 45 #[iv v0, iv (7 : Int32), rv r_CANCELLED, iv (1 : Int32)] [(.int (1 : Int32))]))) (fun t_ kont => XS.iconst X230.here hx rfl (hb hby at_44) kont) ?_
                  refine own_bk (S' := (T226.setTop (mkF m 49 #[iv v0, iv (7 : Int32), rv r_CANCELLED, iv (1 : Int32)] [(.int (1 : Int32))]))) (fun t_ kont => XS.goto X230.here hx rfl (pc0 := 45) (pc' := 49) rfl (hb hby at_45) (by decide) (by decide) kont) ?_
                  exact own_retN X230 hx hlk (t := .boolean) (w := (1 : Int32)) Bd.returns (by simp) (hb hby at_49) rfl ⟨rfl, N240⟩ (by decide) (by decide)
                · by_cases hc241 : k = (8 : Int32)
                  · subst hc241
                    obtain ⟨_, _, ⟨T242, L243, k244, n245⟩, -, X246, ⟨Lc247, hQ248, l249, y250, z251⟩, st252⟩ := Jvm.LawKit.callS X0 hx (y := (⟨"com/example/quayside/quayside/PaymentStateIsFinalPinLaw", "pick", "(I)Lcom/example/quayside/quayside/PaymentState;"⟩ : MethodName)) hown (mvT hZ (hw _ (List.mem_of_getElem? (i := 1) rfl))) (mvT hZ (hw _ (List.mem_of_getElem? (i := 2) rfl))) (mvT hZ (hw _ (List.mem_of_getElem? (i := 3) rfl))) (mvT hZ (hw _ (List.mem_of_getElem? (i := 4) rfl))) (by decide) (backOf (W := 0) (rm1 l Z a0 hw [] (8 : Int32) r_RECEIVED r_AGREED r_REJECTED r_CANCELLED r_SENT r_DISPUTED r_BROKER_DISPUTED r_ACCEPTED r_ACKNOWLEDGED r_MANAGER_REJECTED r_MANAGER_DISPUTED r_SENT h0 n0 Z0 G_RECEIVED G_AGREED G_REJECTED G_CANCELLED G_SENT G_DISPUTED G_BROKER_DISPUTED G_ACCEPTED G_ACKNOWLEDGED G_MANAGER_REJECTED G_MANAGER_DISPUTED rfl) hZ (hw _ (List.mem_of_getElem? (i := 4) rfl)) (hw _ (List.mem_of_getElem? (i := 3) rfl)) (by decide) (by decide)) (g := (mkF m 9 #[iv v0, iv (8 : Int32), .unset, .unset] [(.int (8 : Int32))])) rfl (by rw [hml]; rfl) (argsL := [(.int (8 : Int32))]) (rest := []) (lenOf (by decide +kernel : parseMethodDescriptor "(I)Lcom/example/quayside/quayside/PaymentState;" = some ⟨[.int], some (.object "com/example/quayside/quayside/PaymentState")⟩) rfl) rfl (by show 2 * 0 + _ ≤ _; exact Nat.le_of_eq rfl) (hb hby at_9) (fun _ _ => ⟨rfl, e0, (by decide : 0 + 0 ≤ _), (by decide : 0 + 0 ≤ _)⟩)
                    dsimp only [Pt.U, Pt.locs, Pt.cells, Pt.slots] at X246 l249 y250 z251 st252 hQ248
                    subst l249 y250 z251
                    obtain ⟨rfl, N253, e254⟩ := hQ248
                    have N255 := Fr.app N0 N253
                    refine own_bk (S' := (T242.setTop (mkF m 12 #[iv v0, iv (8 : Int32), .unset, .unset] [(.ref r_SENT)]))) st252 ?_
                    refine own_bk (S' := (T242.setTop (mkF m 13 #[iv v0, iv (8 : Int32), rv r_SENT, .unset] []))) (fun t_ kont => XS.astoreN X246.here hx rfl (hb hby at_12) rfl rfl (l' := #[iv v0, iv (8 : Int32), rv r_SENT, .unset]) rfl kont) ?_
                    refine own_bk (S' := (T242.setTop (mkF m 14 #[iv v0, iv (8 : Int32), rv r_SENT, .unset] [(.int (8 : Int32))]))) (fun t_ kont => XS.iloadN X246.here hx rfl (hb hby at_13) rfl kont) ?_
                    refine own_bk (S' := (T242.setTop (mkF m 15 #[iv v0, iv (8 : Int32), rv r_SENT, .unset] [(.int (3 : Int32)), (.int (8 : Int32))]))) (fun t_ kont => XS.iconst X246.here hx rfl (hb hby at_14) kont) ?_
                    refine own_bk (S' := (T242.setTop (mkF m 18 #[iv v0, iv (8 : Int32), rv r_SENT, .unset] []))) (fun t_ kont => XS.icmpNo X246.here hx rfl (hb hby at_15) rfl (feq (by decide : ¬ ((8 : Int32)) = ((3 : Int32)))).1 kont) ?_
                    refine own_bk (S' := (T242.setTop (mkF m 19 #[iv v0, iv (8 : Int32), rv r_SENT, .unset] [(.int (8 : Int32))]))) (fun t_ kont => XS.iloadN X246.here hx rfl (hb hby at_18) rfl kont) ?_
                    refine own_bk (S' := (T242.setTop (mkF m 21 #[iv v0, iv (8 : Int32), rv r_SENT, .unset] [(.int (6 : Int32)), (.int (8 : Int32))]))) (fun t_ kont => XS.bipush X246.here hx rfl (hb hby at_19) kont) ?_
                    refine own_bk (S' := (T242.setTop (mkF m 24 #[iv v0, iv (8 : Int32), rv r_SENT, .unset] []))) (fun t_ kont => XS.icmpNo X246.here hx rfl (hb hby at_21) rfl (feq (by decide : ¬ ((8 : Int32)) = ((6 : Int32)))).1 kont) ?_
                    refine own_bk (S' := (T242.setTop (mkF m 25 #[iv v0, iv (8 : Int32), rv r_SENT, .unset] [(.int (8 : Int32))]))) (fun t_ kont => XS.iloadN X246.here hx rfl (hb hby at_24) rfl kont) ?_
                    refine own_bk (S' := (T242.setTop (mkF m 27 #[iv v0, iv (8 : Int32), rv r_SENT, .unset] [(.int (7 : Int32)), (.int (8 : Int32))]))) (fun t_ kont => XS.bipush X246.here hx rfl (hb hby at_25) kont) ?_
                    refine own_bk (S' := (T242.setTop (mkF m 34 #[iv v0, iv (8 : Int32), rv r_SENT, .unset] []))) (fun t_ kont => XS.icmpYes X246.here hx rfl (pc0 := 27) (pc' := 34) rfl (hb hby at_27) rfl (feq (by decide : ¬ ((8 : Int32)) = ((7 : Int32)))).2 (by decide) (by decide) kont) ?_
                    refine own_bk (S' := (T242.setTop (mkF m 35 #[iv v0, iv (8 : Int32), rv r_SENT, .unset] [(.int (0 : Int32))]))) (fun t_ kont => XS.iconst X246.here hx rfl (hb hby at_34) kont) ?_
                    refine own_bk (S' := (T242.setTop (mkF m 36 #[iv v0, iv (8 : Int32), rv r_SENT, iv (0 : Int32)] []))) (fun t_ kont => XS.istoreN X246.here hx rfl (hb hby at_35) rfl (l' := #[iv v0, iv (8 : Int32), rv r_SENT, iv (0 : Int32)]) rfl kont) ?_
                    refine own_bk (S' := (T242.setTop (mkF m 37 #[iv v0, iv (8 : Int32), rv r_SENT, iv (0 : Int32)] [(.ref r_SENT)]))) (fun t_ kont => XS.aloadN X246.here hx rfl (hb hby at_36) rfl rfl kont) ?_
                    obtain ⟨cqq267, kqq267, q267a, q267b, q267c⟩ := isOf hZ e254 G_SENT.2.1
                    obtain ⟨_, _, ⟨T256, L257, k258, n259⟩, -, X260, ⟨Lc261, hQ262, l263, y264, z265⟩, st266⟩ := X246.virtualBack hx (y := (⟨"com/example/quayside/quayside/PaymentState", "isFinal", "()Z"⟩ : MethodName)) (z := (⟨"com/example/quayside/quayside/PaymentState", "isFinal", "()Z"⟩ : MethodName)) hown (mvT hZ (hw _ (List.mem_of_getElem? (i := 8) rfl))) (mvT hZ (hw _ (List.mem_of_getElem? (i := 9) rfl))) (notFace_of_selects (args := #[]) (mvT hZ (hw _ (List.mem_of_getElem? (i := 11) rfl)))) (mvT hZ (hw _ (List.mem_of_getElem? (i := 11) rfl))) (mvT hZ (hw _ (List.mem_of_getElem? (i := 10) rfl))) (by decide) (backOf (W := 0) (rm2 l Z a0 hw [] r_SENT r_AGREED r_REJECTED r_CANCELLED (0 : Int32) h0 n0 Z0 G_AGREED.1 G_REJECTED.1 G_CANCELLED.1 (by simp [(G_SENT.ne G_AGREED (by decide)), (G_SENT.ne G_REJECTED (by decide)), (G_SENT.ne G_CANCELLED (by decide))])) hZ (hw _ (List.mem_of_getElem? (i := 12) rfl)) (hw _ (List.mem_of_getElem? (i := 6) rfl)) (by decide) (by decide)) q267a q267c (g := (mkF m 37 #[iv v0, iv (8 : Int32), rv r_SENT, iv (0 : Int32)] [(.ref r_SENT)])) rfl (by rw [hml]; rfl) (Steps.refl _) (argsL := []) (rest := []) (lenOf (by decide +kernel : parseMethodDescriptor "()Z" = some ⟨[], some .boolean⟩) rfl) rfl (by show 2 * 0 + _ ≤ _; exact Nat.le_of_eq rfl) (hb hby at_37) (fun _ _ => ⟨rfl, e254, (by decide : 0 + 0 ≤ _), (by decide : 0 + 0 ≤ _)⟩)
                    dsimp only [Pt.U, Pt.locs, Pt.cells, Pt.slots] at X260 l263 y264 z265 st266 hQ262
                    subst l263 y264 z265
                    obtain ⟨rfl, N268, e269⟩ := hQ262
                    have N270 := Fr.app N255 N268
                    refine own_tr (S' := (T256.setTop (mkF m 40 #[iv v0, iv (8 : Int32), rv r_SENT, iv (0 : Int32)] [(.int (0 : Int32))]))) st266 ?_
                    refine own_bk (S' := (T256.setTop (mkF m 41 #[iv v0, iv (8 : Int32), rv r_SENT, iv (0 : Int32)] [(.int (0 : Int32)), (.int (0 : Int32))]))) (fun t_ kont => XS.iloadN X260.here hx rfl (hb hby at_40) rfl kont) ?_
                    refine own_bk (S' := (T256.setTop (mkF m 44 #[iv v0, iv (8 : Int32), rv r_SENT, iv (0 : Int32)] []))) (fun t_ kont => XS.icmpNo X260.here hx rfl (hb hby at_41) rfl (teq (by decide : ((0 : Int32)) = ((0 : Int32)))).2 kont) ?_
                    refine own_bk (S' := (T256.setTop (mkF m 45 #[iv v0, iv (8 : Int32), rv r_SENT, iv (0 : Int32)] [(.int (1 : Int32))]))) (fun t_ kont => XS.iconst X260.here hx rfl (hb hby at_44) kont) ?_
                    refine own_bk (S' := (T256.setTop (mkF m 49 #[iv v0, iv (8 : Int32), rv r_SENT, iv (0 : Int32)] [(.int (1 : Int32))]))) (fun t_ kont => XS.goto X260.here hx rfl (pc0 := 45) (pc' := 49) rfl (hb hby at_45) (by decide) (by decide) kont) ?_
                    exact own_retN X260 hx hlk (t := .boolean) (w := (1 : Int32)) Bd.returns (by simp) (hb hby at_49) rfl ⟨rfl, N270⟩ (by decide) (by decide)
                  · by_cases hc271 : k = (9 : Int32)
                    · subst hc271
                      obtain ⟨_, _, ⟨T272, L273, k274, n275⟩, -, X276, ⟨Lc277, hQ278, l279, y280, z281⟩, st282⟩ := Jvm.LawKit.callS X0 hx (y := (⟨"com/example/quayside/quayside/PaymentStateIsFinalPinLaw", "pick", "(I)Lcom/example/quayside/quayside/PaymentState;"⟩ : MethodName)) hown (mvT hZ (hw _ (List.mem_of_getElem? (i := 1) rfl))) (mvT hZ (hw _ (List.mem_of_getElem? (i := 2) rfl))) (mvT hZ (hw _ (List.mem_of_getElem? (i := 3) rfl))) (mvT hZ (hw _ (List.mem_of_getElem? (i := 4) rfl))) (by decide) (backOf (W := 0) (rm1 l Z a0 hw [] (9 : Int32) r_RECEIVED r_AGREED r_REJECTED r_CANCELLED r_SENT r_DISPUTED r_BROKER_DISPUTED r_ACCEPTED r_ACKNOWLEDGED r_MANAGER_REJECTED r_MANAGER_DISPUTED r_ACKNOWLEDGED h0 n0 Z0 G_RECEIVED G_AGREED G_REJECTED G_CANCELLED G_SENT G_DISPUTED G_BROKER_DISPUTED G_ACCEPTED G_ACKNOWLEDGED G_MANAGER_REJECTED G_MANAGER_DISPUTED rfl) hZ (hw _ (List.mem_of_getElem? (i := 4) rfl)) (hw _ (List.mem_of_getElem? (i := 3) rfl)) (by decide) (by decide)) (g := (mkF m 9 #[iv v0, iv (9 : Int32), .unset, .unset] [(.int (9 : Int32))])) rfl (by rw [hml]; rfl) (argsL := [(.int (9 : Int32))]) (rest := []) (lenOf (by decide +kernel : parseMethodDescriptor "(I)Lcom/example/quayside/quayside/PaymentState;" = some ⟨[.int], some (.object "com/example/quayside/quayside/PaymentState")⟩) rfl) rfl (by show 2 * 0 + _ ≤ _; exact Nat.le_of_eq rfl) (hb hby at_9) (fun _ _ => ⟨rfl, e0, (by decide : 0 + 0 ≤ _), (by decide : 0 + 0 ≤ _)⟩)
                      dsimp only [Pt.U, Pt.locs, Pt.cells, Pt.slots] at X276 l279 y280 z281 st282 hQ278
                      subst l279 y280 z281
                      obtain ⟨rfl, N283, e284⟩ := hQ278
                      have N285 := Fr.app N0 N283
                      refine own_bk (S' := (T272.setTop (mkF m 12 #[iv v0, iv (9 : Int32), .unset, .unset] [(.ref r_ACKNOWLEDGED)]))) st282 ?_
                      refine own_bk (S' := (T272.setTop (mkF m 13 #[iv v0, iv (9 : Int32), rv r_ACKNOWLEDGED, .unset] []))) (fun t_ kont => XS.astoreN X276.here hx rfl (hb hby at_12) rfl rfl (l' := #[iv v0, iv (9 : Int32), rv r_ACKNOWLEDGED, .unset]) rfl kont) ?_
                      refine own_bk (S' := (T272.setTop (mkF m 14 #[iv v0, iv (9 : Int32), rv r_ACKNOWLEDGED, .unset] [(.int (9 : Int32))]))) (fun t_ kont => XS.iloadN X276.here hx rfl (hb hby at_13) rfl kont) ?_
                      refine own_bk (S' := (T272.setTop (mkF m 15 #[iv v0, iv (9 : Int32), rv r_ACKNOWLEDGED, .unset] [(.int (3 : Int32)), (.int (9 : Int32))]))) (fun t_ kont => XS.iconst X276.here hx rfl (hb hby at_14) kont) ?_
                      refine own_bk (S' := (T272.setTop (mkF m 18 #[iv v0, iv (9 : Int32), rv r_ACKNOWLEDGED, .unset] []))) (fun t_ kont => XS.icmpNo X276.here hx rfl (hb hby at_15) rfl (feq (by decide : ¬ ((9 : Int32)) = ((3 : Int32)))).1 kont) ?_
                      refine own_bk (S' := (T272.setTop (mkF m 19 #[iv v0, iv (9 : Int32), rv r_ACKNOWLEDGED, .unset] [(.int (9 : Int32))]))) (fun t_ kont => XS.iloadN X276.here hx rfl (hb hby at_18) rfl kont) ?_
                      refine own_bk (S' := (T272.setTop (mkF m 21 #[iv v0, iv (9 : Int32), rv r_ACKNOWLEDGED, .unset] [(.int (6 : Int32)), (.int (9 : Int32))]))) (fun t_ kont => XS.bipush X276.here hx rfl (hb hby at_19) kont) ?_
                      refine own_bk (S' := (T272.setTop (mkF m 24 #[iv v0, iv (9 : Int32), rv r_ACKNOWLEDGED, .unset] []))) (fun t_ kont => XS.icmpNo X276.here hx rfl (hb hby at_21) rfl (feq (by decide : ¬ ((9 : Int32)) = ((6 : Int32)))).1 kont) ?_
                      refine own_bk (S' := (T272.setTop (mkF m 25 #[iv v0, iv (9 : Int32), rv r_ACKNOWLEDGED, .unset] [(.int (9 : Int32))]))) (fun t_ kont => XS.iloadN X276.here hx rfl (hb hby at_24) rfl kont) ?_
                      refine own_bk (S' := (T272.setTop (mkF m 27 #[iv v0, iv (9 : Int32), rv r_ACKNOWLEDGED, .unset] [(.int (7 : Int32)), (.int (9 : Int32))]))) (fun t_ kont => XS.bipush X276.here hx rfl (hb hby at_25) kont) ?_
                      refine own_bk (S' := (T272.setTop (mkF m 34 #[iv v0, iv (9 : Int32), rv r_ACKNOWLEDGED, .unset] []))) (fun t_ kont => XS.icmpYes X276.here hx rfl (pc0 := 27) (pc' := 34) rfl (hb hby at_27) rfl (feq (by decide : ¬ ((9 : Int32)) = ((7 : Int32)))).2 (by decide) (by decide) kont) ?_
                      refine own_bk (S' := (T272.setTop (mkF m 35 #[iv v0, iv (9 : Int32), rv r_ACKNOWLEDGED, .unset] [(.int (0 : Int32))]))) (fun t_ kont => XS.iconst X276.here hx rfl (hb hby at_34) kont) ?_
                      refine own_bk (S' := (T272.setTop (mkF m 36 #[iv v0, iv (9 : Int32), rv r_ACKNOWLEDGED, iv (0 : Int32)] []))) (fun t_ kont => XS.istoreN X276.here hx rfl (hb hby at_35) rfl (l' := #[iv v0, iv (9 : Int32), rv r_ACKNOWLEDGED, iv (0 : Int32)]) rfl kont) ?_
                      refine own_bk (S' := (T272.setTop (mkF m 37 #[iv v0, iv (9 : Int32), rv r_ACKNOWLEDGED, iv (0 : Int32)] [(.ref r_ACKNOWLEDGED)]))) (fun t_ kont => XS.aloadN X276.here hx rfl (hb hby at_36) rfl rfl kont) ?_
                      obtain ⟨cqq297, kqq297, q297a, q297b, q297c⟩ := isOf hZ e284 G_ACKNOWLEDGED.2.1
                      obtain ⟨_, _, ⟨T286, L287, k288, n289⟩, -, X290, ⟨Lc291, hQ292, l293, y294, z295⟩, st296⟩ := X276.virtualBack hx (y := (⟨"com/example/quayside/quayside/PaymentState", "isFinal", "()Z"⟩ : MethodName)) (z := (⟨"com/example/quayside/quayside/PaymentState", "isFinal", "()Z"⟩ : MethodName)) hown (mvT hZ (hw _ (List.mem_of_getElem? (i := 8) rfl))) (mvT hZ (hw _ (List.mem_of_getElem? (i := 9) rfl))) (notFace_of_selects (args := #[]) (mvT hZ (hw _ (List.mem_of_getElem? (i := 11) rfl)))) (mvT hZ (hw _ (List.mem_of_getElem? (i := 11) rfl))) (mvT hZ (hw _ (List.mem_of_getElem? (i := 10) rfl))) (by decide) (backOf (W := 0) (rm2 l Z a0 hw [] r_ACKNOWLEDGED r_AGREED r_REJECTED r_CANCELLED (0 : Int32) h0 n0 Z0 G_AGREED.1 G_REJECTED.1 G_CANCELLED.1 (by simp [(G_ACKNOWLEDGED.ne G_AGREED (by decide)), (G_ACKNOWLEDGED.ne G_REJECTED (by decide)), (G_ACKNOWLEDGED.ne G_CANCELLED (by decide))])) hZ (hw _ (List.mem_of_getElem? (i := 12) rfl)) (hw _ (List.mem_of_getElem? (i := 6) rfl)) (by decide) (by decide)) q297a q297c (g := (mkF m 37 #[iv v0, iv (9 : Int32), rv r_ACKNOWLEDGED, iv (0 : Int32)] [(.ref r_ACKNOWLEDGED)])) rfl (by rw [hml]; rfl) (Steps.refl _) (argsL := []) (rest := []) (lenOf (by decide +kernel : parseMethodDescriptor "()Z" = some ⟨[], some .boolean⟩) rfl) rfl (by show 2 * 0 + _ ≤ _; exact Nat.le_of_eq rfl) (hb hby at_37) (fun _ _ => ⟨rfl, e284, (by decide : 0 + 0 ≤ _), (by decide : 0 + 0 ≤ _)⟩)
                      dsimp only [Pt.U, Pt.locs, Pt.cells, Pt.slots] at X290 l293 y294 z295 st296 hQ292
                      subst l293 y294 z295
                      obtain ⟨rfl, N298, e299⟩ := hQ292
                      have N300 := Fr.app N285 N298
                      refine own_tr (S' := (T286.setTop (mkF m 40 #[iv v0, iv (9 : Int32), rv r_ACKNOWLEDGED, iv (0 : Int32)] [(.int (0 : Int32))]))) st296 ?_
                      refine own_bk (S' := (T286.setTop (mkF m 41 #[iv v0, iv (9 : Int32), rv r_ACKNOWLEDGED, iv (0 : Int32)] [(.int (0 : Int32)), (.int (0 : Int32))]))) (fun t_ kont => XS.iloadN X290.here hx rfl (hb hby at_40) rfl kont) ?_
                      refine own_bk (S' := (T286.setTop (mkF m 44 #[iv v0, iv (9 : Int32), rv r_ACKNOWLEDGED, iv (0 : Int32)] []))) (fun t_ kont => XS.icmpNo X290.here hx rfl (hb hby at_41) rfl (teq (by decide : ((0 : Int32)) = ((0 : Int32)))).2 kont) ?_
                      refine own_bk (S' := (T286.setTop (mkF m 45 #[iv v0, iv (9 : Int32), rv r_ACKNOWLEDGED, iv (0 : Int32)] [(.int (1 : Int32))]))) (fun t_ kont => XS.iconst X290.here hx rfl (hb hby at_44) kont) ?_
                      refine own_bk (S' := (T286.setTop (mkF m 49 #[iv v0, iv (9 : Int32), rv r_ACKNOWLEDGED, iv (0 : Int32)] [(.int (1 : Int32))]))) (fun t_ kont => XS.goto X290.here hx rfl (pc0 := 45) (pc' := 49) rfl (hb hby at_45) (by decide) (by decide) kont) ?_
                      exact own_retN X290 hx hlk (t := .boolean) (w := (1 : Int32)) Bd.returns (by simp) (hb hby at_49) rfl ⟨rfl, N300⟩ (by decide) (by decide)
                    · obtain ⟨_, _, ⟨T301, L302, k303, n304⟩, -, X305, ⟨Lc306, hQ307, l308, y309, z310⟩, st311⟩ := Jvm.LawKit.callS X0 hx (y := (⟨"com/example/quayside/quayside/PaymentStateIsFinalPinLaw", "pick", "(I)Lcom/example/quayside/quayside/PaymentState;"⟩ : MethodName)) hown (mvT hZ (hw _ (List.mem_of_getElem? (i := 1) rfl))) (mvT hZ (hw _ (List.mem_of_getElem? (i := 2) rfl))) (mvT hZ (hw _ (List.mem_of_getElem? (i := 3) rfl))) (mvT hZ (hw _ (List.mem_of_getElem? (i := 4) rfl))) (by decide) (backOf (W := 0) (rm1 l Z a0 hw [] k r_RECEIVED r_AGREED r_REJECTED r_CANCELLED r_SENT r_DISPUTED r_BROKER_DISPUTED r_ACCEPTED r_ACKNOWLEDGED r_MANAGER_REJECTED r_MANAGER_DISPUTED r_BROKER_DISPUTED h0 n0 Z0 G_RECEIVED G_AGREED G_REJECTED G_CANCELLED G_SENT G_DISPUTED G_BROKER_DISPUTED G_ACCEPTED G_ACKNOWLEDGED G_MANAGER_REJECTED G_MANAGER_DISPUTED (by simp [hc1, hc31, hc61, hc91, hc121, hc151, hc181, hc211, hc241, hc271])) hZ (hw _ (List.mem_of_getElem? (i := 4) rfl)) (hw _ (List.mem_of_getElem? (i := 3) rfl)) (by decide) (by decide)) (g := (mkF m 9 #[iv v0, iv k, .unset, .unset] [(.int k)])) rfl (by rw [hml]; rfl) (argsL := [(.int k)]) (rest := []) (lenOf (by decide +kernel : parseMethodDescriptor "(I)Lcom/example/quayside/quayside/PaymentState;" = some ⟨[.int], some (.object "com/example/quayside/quayside/PaymentState")⟩) rfl) rfl (by show 2 * 0 + _ ≤ _; exact Nat.le_of_eq rfl) (hb hby at_9) (fun _ _ => ⟨rfl, e0, (by decide : 0 + 0 ≤ _), (by decide : 0 + 0 ≤ _)⟩)
                      dsimp only [Pt.U, Pt.locs, Pt.cells, Pt.slots] at X305 l308 y309 z310 st311 hQ307
                      subst l308 y309 z310
                      obtain ⟨rfl, N312, e313⟩ := hQ307
                      have N314 := Fr.app N0 N312
                      refine own_bk (S' := (T301.setTop (mkF m 12 #[iv v0, iv k, .unset, .unset] [(.ref r_BROKER_DISPUTED)]))) st311 ?_
                      refine own_bk (S' := (T301.setTop (mkF m 13 #[iv v0, iv k, rv r_BROKER_DISPUTED, .unset] []))) (fun t_ kont => XS.astoreN X305.here hx rfl (hb hby at_12) rfl rfl (l' := #[iv v0, iv k, rv r_BROKER_DISPUTED, .unset]) rfl kont) ?_
                      refine own_bk (S' := (T301.setTop (mkF m 14 #[iv v0, iv k, rv r_BROKER_DISPUTED, .unset] [(.int k)]))) (fun t_ kont => XS.iloadN X305.here hx rfl (hb hby at_13) rfl kont) ?_
                      refine own_bk (S' := (T301.setTop (mkF m 15 #[iv v0, iv k, rv r_BROKER_DISPUTED, .unset] [(.int (3 : Int32)), (.int k)]))) (fun t_ kont => XS.iconst X305.here hx rfl (hb hby at_14) kont) ?_
                      refine own_bk (S' := (T301.setTop (mkF m 18 #[iv v0, iv k, rv r_BROKER_DISPUTED, .unset] []))) (fun t_ kont => XS.icmpNo X305.here hx rfl (hb hby at_15) rfl (feq (hc91)).1 kont) ?_
                      refine own_bk (S' := (T301.setTop (mkF m 19 #[iv v0, iv k, rv r_BROKER_DISPUTED, .unset] [(.int k)]))) (fun t_ kont => XS.iloadN X305.here hx rfl (hb hby at_18) rfl kont) ?_
                      refine own_bk (S' := (T301.setTop (mkF m 21 #[iv v0, iv k, rv r_BROKER_DISPUTED, .unset] [(.int (6 : Int32)), (.int k)]))) (fun t_ kont => XS.bipush X305.here hx rfl (hb hby at_19) kont) ?_
                      refine own_bk (S' := (T301.setTop (mkF m 24 #[iv v0, iv k, rv r_BROKER_DISPUTED, .unset] []))) (fun t_ kont => XS.icmpNo X305.here hx rfl (hb hby at_21) rfl (feq (hc181)).1 kont) ?_
                      refine own_bk (S' := (T301.setTop (mkF m 25 #[iv v0, iv k, rv r_BROKER_DISPUTED, .unset] [(.int k)]))) (fun t_ kont => XS.iloadN X305.here hx rfl (hb hby at_24) rfl kont) ?_
                      refine own_bk (S' := (T301.setTop (mkF m 27 #[iv v0, iv k, rv r_BROKER_DISPUTED, .unset] [(.int (7 : Int32)), (.int k)]))) (fun t_ kont => XS.bipush X305.here hx rfl (hb hby at_25) kont) ?_
                      refine own_bk (S' := (T301.setTop (mkF m 34 #[iv v0, iv k, rv r_BROKER_DISPUTED, .unset] []))) (fun t_ kont => XS.icmpYes X305.here hx rfl (pc0 := 27) (pc' := 34) rfl (hb hby at_27) rfl (feq (hc211)).2 (by decide) (by decide) kont) ?_
                      refine own_bk (S' := (T301.setTop (mkF m 35 #[iv v0, iv k, rv r_BROKER_DISPUTED, .unset] [(.int (0 : Int32))]))) (fun t_ kont => XS.iconst X305.here hx rfl (hb hby at_34) kont) ?_
                      refine own_bk (S' := (T301.setTop (mkF m 36 #[iv v0, iv k, rv r_BROKER_DISPUTED, iv (0 : Int32)] []))) (fun t_ kont => XS.istoreN X305.here hx rfl (hb hby at_35) rfl (l' := #[iv v0, iv k, rv r_BROKER_DISPUTED, iv (0 : Int32)]) rfl kont) ?_
                      refine own_bk (S' := (T301.setTop (mkF m 37 #[iv v0, iv k, rv r_BROKER_DISPUTED, iv (0 : Int32)] [(.ref r_BROKER_DISPUTED)]))) (fun t_ kont => XS.aloadN X305.here hx rfl (hb hby at_36) rfl rfl kont) ?_
                      obtain ⟨cqq326, kqq326, q326a, q326b, q326c⟩ := isOf hZ e313 G_BROKER_DISPUTED.2.1
                      obtain ⟨_, _, ⟨T315, L316, k317, n318⟩, -, X319, ⟨Lc320, hQ321, l322, y323, z324⟩, st325⟩ := X305.virtualBack hx (y := (⟨"com/example/quayside/quayside/PaymentState", "isFinal", "()Z"⟩ : MethodName)) (z := (⟨"com/example/quayside/quayside/PaymentState", "isFinal", "()Z"⟩ : MethodName)) hown (mvT hZ (hw _ (List.mem_of_getElem? (i := 8) rfl))) (mvT hZ (hw _ (List.mem_of_getElem? (i := 9) rfl))) (notFace_of_selects (args := #[]) (mvT hZ (hw _ (List.mem_of_getElem? (i := 11) rfl)))) (mvT hZ (hw _ (List.mem_of_getElem? (i := 11) rfl))) (mvT hZ (hw _ (List.mem_of_getElem? (i := 10) rfl))) (by decide) (backOf (W := 0) (rm2 l Z a0 hw [] r_BROKER_DISPUTED r_AGREED r_REJECTED r_CANCELLED (0 : Int32) h0 n0 Z0 G_AGREED.1 G_REJECTED.1 G_CANCELLED.1 (by simp [(G_BROKER_DISPUTED.ne G_AGREED (by decide)), (G_BROKER_DISPUTED.ne G_REJECTED (by decide)), (G_BROKER_DISPUTED.ne G_CANCELLED (by decide))])) hZ (hw _ (List.mem_of_getElem? (i := 12) rfl)) (hw _ (List.mem_of_getElem? (i := 6) rfl)) (by decide) (by decide)) q326a q326c (g := (mkF m 37 #[iv v0, iv k, rv r_BROKER_DISPUTED, iv (0 : Int32)] [(.ref r_BROKER_DISPUTED)])) rfl (by rw [hml]; rfl) (Steps.refl _) (argsL := []) (rest := []) (lenOf (by decide +kernel : parseMethodDescriptor "()Z" = some ⟨[], some .boolean⟩) rfl) rfl (by show 2 * 0 + _ ≤ _; exact Nat.le_of_eq rfl) (hb hby at_37) (fun _ _ => ⟨rfl, e313, (by decide : 0 + 0 ≤ _), (by decide : 0 + 0 ≤ _)⟩)
                      dsimp only [Pt.U, Pt.locs, Pt.cells, Pt.slots] at X319 l322 y323 z324 st325 hQ321
                      subst l322 y323 z324
                      obtain ⟨rfl, N327, e328⟩ := hQ321
                      have N329 := Fr.app N314 N327
                      refine own_tr (S' := (T315.setTop (mkF m 40 #[iv v0, iv k, rv r_BROKER_DISPUTED, iv (0 : Int32)] [(.int (0 : Int32))]))) st325 ?_
                      refine own_bk (S' := (T315.setTop (mkF m 41 #[iv v0, iv k, rv r_BROKER_DISPUTED, iv (0 : Int32)] [(.int (0 : Int32)), (.int (0 : Int32))]))) (fun t_ kont => XS.iloadN X319.here hx rfl (hb hby at_40) rfl kont) ?_
                      refine own_bk (S' := (T315.setTop (mkF m 44 #[iv v0, iv k, rv r_BROKER_DISPUTED, iv (0 : Int32)] []))) (fun t_ kont => XS.icmpNo X319.here hx rfl (hb hby at_41) rfl (teq (by decide : ((0 : Int32)) = ((0 : Int32)))).2 kont) ?_
                      refine own_bk (S' := (T315.setTop (mkF m 45 #[iv v0, iv k, rv r_BROKER_DISPUTED, iv (0 : Int32)] [(.int (1 : Int32))]))) (fun t_ kont => XS.iconst X319.here hx rfl (hb hby at_44) kont) ?_
                      refine own_bk (S' := (T315.setTop (mkF m 49 #[iv v0, iv k, rv r_BROKER_DISPUTED, iv (0 : Int32)] [(.int (1 : Int32))]))) (fun t_ kont => XS.goto X319.here hx rfl (pc0 := 45) (pc' := 49) rfl (hb hby at_45) (by decide) (by decide) kont) ?_
                      exact own_retN X319 hx hlk (t := .boolean) (w := (1 : Int32)) Bd.returns (by simp) (hb hby at_49) rfl ⟨rfl, N329⟩ (by decide) (by decide)
set_option maxRecDepth 65536 in
set_option maxHeartbeats 40000000 in
theorem comes_1 {Post : Tables → Env → Array Value → State → Outcome → State → Prop} (hpost : ∀ tb e args s v u, (limb_1_1.after args s (.returned v) u = true ∧ limb_1_2.after args s (.returned v) u = true ∧ True) → FrameEnd s (.returned v) u (Jvm.fieldLocs frame_1_writes args s ++ Jvm.arrayLocs frame_1_arrays args s ++ Jvm.staticLocs frame_1_statics s) 0 0 → Post tb e args s (.returned v) u) :
    ArmFor flags0 classFile x code maxLocals ret World_1 tables_1 room_1 Calls_1 rest_1 Pre_1 Post := by
  intro l hfl _ _ p e ha hc hk s m args below hf hA hF happ hP
  obtain ⟨hcalls, hrest, hpre⟩ := hP
  obtain ⟨-, -, -, hnamed, -, -, -, hat⟩ := (Spec.applies_iff hf).mp happ
  obtain ⟨hg, hn⟩ := and_e (Cond.before_iff.mp (show (Jvm.Cond.and given_1 narrow_1).before args s = true from hpre))
  obtain ⟨g0, hg⟩ := and_e hg
  have g1 := hg
  obtain ⟨w0, rfl⟩ : ∃ w0 : Value, args = #[w0] := by
    have hs : args.size = 1 := by simpa [Cond.value, given_1] using g0
    obtain ⟨L⟩ := args
    match L, hs with
    | [w0], _ => exact ⟨w0, rfl⟩
  have hw := fun d (hd : d ∈ tables_1) => atoms_spec (ws := Jvm.Cond.code x code maxLocals ret :: tables_1) hat d (List.mem_cons_of_mem _ hd)
  have hfit : Fit s := fun {y c} hc i hi => by
    obtain ⟨ha, rfl⟩ := Array.getElem?_eq_some_iff.mp hc
    have q := List.all_eq_true.mp ((Array.all_eq_true_iff_forall_mem.mp hF) _ (Array.getElem_mem ha)) i (List.mem_range.mpr hi)
    simpa [Array.getElem?_eq_getElem hi] using q
  obtain ⟨v0, ev0⟩ := is_v g1
  obtain rfl : w0 = (.int v0) := Option.some.inj ev0
  obtain ⟨c0, hn⟩ := and_e hn
  obtain ⟨c1, hn⟩ := and_e hn
  obtain ⟨c2, hn⟩ := and_e hn
  obtain ⟨c3, hn⟩ := and_e hn
  obtain ⟨c4, hn⟩ := and_e hn
  obtain ⟨c5, hn⟩ := and_e hn
  obtain ⟨c6, hn⟩ := and_e hn
  obtain ⟨c7, hn⟩ := and_e hn
  obtain ⟨c8, hn⟩ := and_e hn
  obtain ⟨c9, hn⟩ := and_e hn
  obtain ⟨c10, hn⟩ := and_e hn
  obtain ⟨c11, hn⟩ := and_e hn
  obtain ⟨c12, hn⟩ := and_e hn
  obtain ⟨c13, hn⟩ := and_e hn
  obtain ⟨c14, hn⟩ := and_e hn
  obtain ⟨c15, hn⟩ := and_e hn
  obtain ⟨c16, hn⟩ := and_e hn
  obtain ⟨c17, hn⟩ := and_e hn
  obtain ⟨c18, hn⟩ := and_e hn
  obtain ⟨c19, hn⟩ := and_e hn
  obtain ⟨c20, hn⟩ := and_e hn
  have c21 := hn
  obtain ⟨r_RECEIVED, ev_RECEIVED⟩ := exa_v c0
  have G_RECEIVED : own_E s s.heap r_RECEIVED "com/example/quayside/quayside/PaymentState" "RECEIVED" "Lcom/example/quayside/quayside/PaymentState;" 0 := ⟨Sta.start ev_RECEIVED (Or.inr ⟨(hw _ (List.mem_of_getElem? (i := 6) rfl)), (hw _ (List.mem_of_getElem? (i := 7) rfl))⟩), Exa.start ev_RECEIVED c0, Fld.start (own_fldInt c2 ev_RECEIVED)⟩
  obtain ⟨r_AGREED, ev_AGREED⟩ := exa_v c1
  have G_AGREED : own_E s s.heap r_AGREED "com/example/quayside/quayside/PaymentState" "AGREED" "Lcom/example/quayside/quayside/PaymentState;" 3 := ⟨Sta.start ev_AGREED (Or.inr ⟨(hw _ (List.mem_of_getElem? (i := 6) rfl)), (hw _ (List.mem_of_getElem? (i := 14) rfl))⟩), Exa.start ev_AGREED c1, Fld.start (own_fldInt c3 ev_AGREED)⟩
  obtain ⟨r_REJECTED, ev_REJECTED⟩ := exa_v c4
  have G_REJECTED : own_E s s.heap r_REJECTED "com/example/quayside/quayside/PaymentState" "REJECTED" "Lcom/example/quayside/quayside/PaymentState;" 6 := ⟨Sta.start ev_REJECTED (Or.inr ⟨(hw _ (List.mem_of_getElem? (i := 6) rfl)), (hw _ (List.mem_of_getElem? (i := 16) rfl))⟩), Exa.start ev_REJECTED c4, Fld.start (own_fldInt c5 ev_REJECTED)⟩
  obtain ⟨r_CANCELLED, ev_CANCELLED⟩ := exa_v c6
  have G_CANCELLED : own_E s s.heap r_CANCELLED "com/example/quayside/quayside/PaymentState" "CANCELLED" "Lcom/example/quayside/quayside/PaymentState;" 7 := ⟨Sta.start ev_CANCELLED (Or.inr ⟨(hw _ (List.mem_of_getElem? (i := 6) rfl)), (hw _ (List.mem_of_getElem? (i := 18) rfl))⟩), Exa.start ev_CANCELLED c6, Fld.start (own_fldInt c7 ev_CANCELLED)⟩
  obtain ⟨r_SENT, ev_SENT⟩ := exa_v c8
  have G_SENT : own_E s s.heap r_SENT "com/example/quayside/quayside/PaymentState" "SENT" "Lcom/example/quayside/quayside/PaymentState;" 8 := ⟨Sta.start ev_SENT (Or.inr ⟨(hw _ (List.mem_of_getElem? (i := 6) rfl)), (hw _ (List.mem_of_getElem? (i := 22) rfl))⟩), Exa.start ev_SENT c8, Fld.start (own_fldInt c9 ev_SENT)⟩
  obtain ⟨r_DISPUTED, ev_DISPUTED⟩ := exa_v c10
  have G_DISPUTED : own_E s s.heap r_DISPUTED "com/example/quayside/quayside/PaymentState" "DISPUTED" "Lcom/example/quayside/quayside/PaymentState;" 2 := ⟨Sta.start ev_DISPUTED (Or.inr ⟨(hw _ (List.mem_of_getElem? (i := 6) rfl)), (hw _ (List.mem_of_getElem? (i := 24) rfl))⟩), Exa.start ev_DISPUTED c10, Fld.start (own_fldInt c11 ev_DISPUTED)⟩
  obtain ⟨r_BROKER_DISPUTED, ev_BROKER_DISPUTED⟩ := exa_v c12
  have G_BROKER_DISPUTED : own_E s s.heap r_BROKER_DISPUTED "com/example/quayside/quayside/PaymentState" "BROKER_DISPUTED" "Lcom/example/quayside/quayside/PaymentState;" 10 := ⟨Sta.start ev_BROKER_DISPUTED (Or.inr ⟨(hw _ (List.mem_of_getElem? (i := 6) rfl)), (hw _ (List.mem_of_getElem? (i := 26) rfl))⟩), Exa.start ev_BROKER_DISPUTED c12, Fld.start (own_fldInt c13 ev_BROKER_DISPUTED)⟩
  obtain ⟨r_ACCEPTED, ev_ACCEPTED⟩ := exa_v c14
  have G_ACCEPTED : own_E s s.heap r_ACCEPTED "com/example/quayside/quayside/PaymentState" "ACCEPTED" "Lcom/example/quayside/quayside/PaymentState;" 1 := ⟨Sta.start ev_ACCEPTED (Or.inr ⟨(hw _ (List.mem_of_getElem? (i := 6) rfl)), (hw _ (List.mem_of_getElem? (i := 28) rfl))⟩), Exa.start ev_ACCEPTED c14, Fld.start (own_fldInt c15 ev_ACCEPTED)⟩
  obtain ⟨r_ACKNOWLEDGED, ev_ACKNOWLEDGED⟩ := exa_v c16
  have G_ACKNOWLEDGED : own_E s s.heap r_ACKNOWLEDGED "com/example/quayside/quayside/PaymentState" "ACKNOWLEDGED" "Lcom/example/quayside/quayside/PaymentState;" 9 := ⟨Sta.start ev_ACKNOWLEDGED (Or.inr ⟨(hw _ (List.mem_of_getElem? (i := 6) rfl)), (hw _ (List.mem_of_getElem? (i := 30) rfl))⟩), Exa.start ev_ACKNOWLEDGED c16, Fld.start (own_fldInt c17 ev_ACKNOWLEDGED)⟩
  obtain ⟨r_MANAGER_REJECTED, ev_MANAGER_REJECTED⟩ := exa_v c18
  have G_MANAGER_REJECTED : own_E s s.heap r_MANAGER_REJECTED "com/example/quayside/quayside/PaymentState" "MANAGER_REJECTED" "Lcom/example/quayside/quayside/PaymentState;" 5 := ⟨Sta.start ev_MANAGER_REJECTED (Or.inr ⟨(hw _ (List.mem_of_getElem? (i := 6) rfl)), (hw _ (List.mem_of_getElem? (i := 32) rfl))⟩), Exa.start ev_MANAGER_REJECTED c18, Fld.start (own_fldInt c19 ev_MANAGER_REJECTED)⟩
  obtain ⟨r_MANAGER_DISPUTED, ev_MANAGER_DISPUTED⟩ := exa_v c20
  have G_MANAGER_DISPUTED : own_E s s.heap r_MANAGER_DISPUTED "com/example/quayside/quayside/PaymentState" "MANAGER_DISPUTED" "Lcom/example/quayside/quayside/PaymentState;" 4 := ⟨Sta.start ev_MANAGER_DISPUTED (Or.inr ⟨(hw _ (List.mem_of_getElem? (i := 6) rfl)), (hw _ (List.mem_of_getElem? (i := 35) rfl))⟩), Exa.start ev_MANAGER_DISPUTED c20, Fld.start (own_fldInt c21 ev_MANAGER_DISPUTED)⟩
  obtain ⟨n, o, h1, h2, h3, _, L, rfl, ⟨rfl, N⟩, hq⟩ := rm0 l s _ hw tables_1 v0 r_RECEIVED r_AGREED r_REJECTED r_CANCELLED r_SENT r_DISPUTED r_BROKER_DISPUTED r_ACCEPTED r_ACKNOWLEDGED r_MANAGER_REJECTED r_MANAGER_DISPUTED s.heap s.heap.size (Nat.le_refl _) G_RECEIVED G_AGREED G_REJECTED G_CANCELLED G_SENT G_DISPUTED G_BROKER_DISPUTED G_ACCEPTED G_ACKNOWLEDGED G_MANAGER_REJECTED G_MANAGER_DISPUTED p e ha hc hk s m _ below hf ((Spec.applies_iff_loose hf).mp happ).1 ⟨rfl, State.Warmed39.refl s, rfl⟩ trivial
  refine ⟨n, _, h1, h2, h3, hpost _ _ _ _ _ _ ⟨Cond.after_iff.mpr rfl, Cond.after_iff.mpr (eq_i res_at (Term.int_eval (1)) rfl), trivial⟩ ⟨hq.1, hq.2.1, (hq.2.2.sift fun y hy => Or.inr (N y hy)).mono (by decide) (by decide)⟩⟩
theorem main_1_1 : Claimed_1_1 := comes_1 fun _ _ _ _ _ _ h hF => ⟨h.1, hF⟩
theorem main_1_2 : Claimed_1_2 := comes_1 fun _ _ _ _ _ _ h hF => ⟨h.2.1, hF⟩
end Jvm.Pilot.@@N@@
namespace Jvm.Pilot.@@N@@
open Jvm Jvm.ClassFile Sem Op Lib Jvm.Free Jvm.Stand Jvm.Pilot.@@N@@.Jvm.D
/-! MADE BY PROGRAM (witnessworld.py) out of the Statement's table words and the real class files: 12 classes; the members and pool entries that the words name. The judged class is class 1, her method 2. -/
namespace start1
open Jvm.ClassFile
def u (s : String) : CpInfo := .utf8 (stringToUtf16 s)
/-- a pool by its gaps: so many unusable entries, then the entry; so many at the end -/
def gap : Nat → List CpInfo → List CpInfo
  | 0, r => r
  | n + 1, r => .unusable :: gap n r
def poolList (es : List (Nat × CpInfo)) (last : Nat) : List CpInfo := es.foldr (fun e r => gap e.1 (e.2 :: r)) (gap last [])
def pool (es : List (Nat × CpInfo)) (last : Nat) : Array CpInfo := ⟨poolList es last⟩
def fileOf (pool : Array CpInfo) (this : Nat) (attrs : Array Attribute := #[]) (ms : Array MethodInfo := #[]) (fl : Nat := 33) (sup : Nat := 0) (ifs : Array Nat := #[]) (fds : Array FieldInfo := #[]) : ClassFile where
  minorVersion := 0
  majorVersion := 65
  constantPool := pool
  accessFlags := fl
  thisClass := this
  superClass := sup
  interfaces := ifs
  fields := fds
  methods := ms
  attributes := attrs
def plain (name : String) (sup : Option ClassId) : Class where
  name := name
  kind := .ordinary
  loader := none
  accessFlags := 33
  super := sup
  interfaces := #[]
  cf := none
  fields := #[]
  methods := #[]
  instanceTypes := #[]
  staticTypes := #[]
  resolved := #[]
  callSites := []
  init := .initialized
  statics := none
  mirror := none

def pool0 : Array CpInfo := pool [(5, u "<init>"), (0, u "()V"), (1, .class_ 10), (1, u "java/lang/Object")] 113

def k0m0 : Method := { name := "<init>", desc := "()V", sig := { parameters := [], returnType := none }, accessFlags := 1, code := none }
/-- java/lang/Object -/
def k0 : Class := { plain "java/lang/Object" none with
  accessFlags := 33
  interfaces := #[]
  cf := some (fileOf pool0 8 #[] #[{ accessFlags := 1, nameIndex := 5, descriptorIndex := 6, attributes := #[] }] 33 0 #[] #[])
  fields := #[]
  methods := #[k0m0]
  instanceTypes := #[]
  staticTypes := #[]
  resolved := Array.replicate 124 none
  statics := none }

def pool1 : Array CpInfo := pool [(2, .class_ 4), (1, u "java/lang/Object"), (0, u "<init>"), (0, u "()V"), (0, .fieldref 8 9), (0, .class_ 10), (0, .nameAndType 11 12), (0, u "com/example/quayside/quayside/PaymentState"), (0, u "RECEIVED"), (0, u "Lcom/example/quayside/quayside/PaymentState;"), (0, .fieldref 8 14), (0, .nameAndType 15 12), (0, u "ACCEPTED"), (0, .fieldref 8 17), (0, .nameAndType 18 12), (0, u "DISPUTED"), (0, .fieldref 8 20), (0, .nameAndType 21 12), (0, u "AGREED"), (0, .fieldref 8 23), (0, .nameAndType 24 12), (0, u "MANAGER_DISPUTED"), (0, .fieldref 8 26), (0, .nameAndType 27 12), (0, u "MANAGER_REJECTED"), (0, .fieldref 8 29), (0, .nameAndType 30 12), (0, u "REJECTED"), (0, .fieldref 8 32), (0, .nameAndType 33 12), (0, u "CANCELLED"), (0, .fieldref 8 35), (0, .nameAndType 36 12), (0, u "SENT"), (0, .fieldref 8 38), (0, .nameAndType 39 12), (0, u "ACKNOWLEDGED"), (0, .fieldref 8 41), (0, .nameAndType 42 12), (0, u "BROKER_DISPUTED"), (0, .integer 2147483647), (0, .methodref 45 46), (0, .class_ 47), (0, .nameAndType 48 49), (0, u "com/example/quayside/quayside/PaymentStateIsFinalPinLaw"), (0, u "pick"), (0, u "(I)Lcom/example/quayside/quayside/PaymentState;"), (0, .methodref 8 51), (0, .nameAndType 52 53), (0, u "isFinal"), (0, u "()Z"), (3, u "law"), (0, u "(I)Z")] 2

def k1m0 : Method := { name := "<init>", desc := "()V", sig := { parameters := [], returnType := none }, accessFlags := 1, code := none }
def k1c1 : Code := { maxStack := 2, maxLocals := 1, code := method_2_code, exceptionTable := #[], attributes := #[] }
def k1m1 : Method := { name := "pick", desc := "(I)Lcom/example/quayside/quayside/PaymentState;", sig := { parameters := [.int], returnType := some (.object "com/example/quayside/quayside/PaymentState") }, accessFlags := 10, code := some k1c1 }
def k1c2 : Code := { maxStack := 2, maxLocals := 4, code := code, exceptionTable := #[], attributes := #[] }
def k1m2 : Method := { name := "law", desc := "(I)Z", sig := { parameters := [.int], returnType := some .boolean }, accessFlags := 9, code := some k1c2 }
/-- com/example/quayside/quayside/PaymentStateIsFinalPinLaw -/
def k1 : Class := { plain "com/example/quayside/quayside/PaymentStateIsFinalPinLaw" (some 0) with
  accessFlags := 49
  interfaces := #[]
  cf := some (fileOf pool1 45 #[] #[{ accessFlags := 1, nameIndex := 5, descriptorIndex := 6, attributes := #[] }, { accessFlags := 10, nameIndex := 48, descriptorIndex := 49, attributes := #[] }, { accessFlags := 9, nameIndex := 57, descriptorIndex := 58, attributes := #[] }] 49 2 #[] #[])
  fields := #[]
  methods := #[k1m0, k1m1, k1m2]
  instanceTypes := #[]
  staticTypes := #[]
  resolved := Array.replicate 61 none
  statics := none }

def pool2 : Array CpInfo := pool [(1, .class_ 2), (0, u "java/lang/constant/Constable"), (0, .class_ 4), (0, u "java/lang/Object")] 6

/-- java/lang/constant/Constable -/
def k2 : Class := { plain "java/lang/constant/Constable" (some 0) with
  accessFlags := 1537
  interfaces := #[]
  cf := some (fileOf pool2 1 #[] #[] 1537 3 #[] #[])
  fields := #[]
  methods := #[]
  instanceTypes := #[]
  staticTypes := #[]
  resolved := Array.replicate 11 none
  statics := none }

def pool3 : Array CpInfo := pool [(1, .class_ 2), (0, u "java/lang/Comparable"), (0, .class_ 4), (0, u "java/lang/Object")] 7

/-- java/lang/Comparable -/
def k3 : Class := { plain "java/lang/Comparable" (some 0) with
  accessFlags := 1537
  interfaces := #[]
  cf := some (fileOf pool3 1 #[] #[] 1537 3 #[] #[])
  fields := #[]
  methods := #[]
  instanceTypes := #[]
  staticTypes := #[]
  resolved := Array.replicate 12 none
  statics := none }

def pool4 : Array CpInfo := pool [(1, .class_ 2), (0, u "java/io/Serializable"), (0, .class_ 4), (0, u "java/lang/Object")] 2

/-- java/io/Serializable -/
def k4 : Class := { plain "java/io/Serializable" (some 0) with
  accessFlags := 1537
  interfaces := #[]
  cf := some (fileOf pool4 1 #[] #[] 1537 3 #[] #[])
  fields := #[]
  methods := #[]
  instanceTypes := #[]
  staticTypes := #[]
  resolved := Array.replicate 7 none
  statics := none }

def pool5 : Array CpInfo := pool [(2, .class_ 4), (1, u "java/lang/Enum"), (0, u "name"), (0, u "Ljava/lang/String;"), (2, u "ordinal"), (0, u "I"), (1, .class_ 14), (1, u "java/lang/Object"), (4, u "hash"), (86, .class_ 108), (1, u "java/lang/Enum$EnumDesc"), (2, .class_ 112), (0, u "java/lang/constant/Constable"), (0, .class_ 114), (0, u "java/lang/Comparable"), (0, .class_ 116), (0, u "java/io/Serializable")] 87

/-- java/lang/Enum -/
def k5 : Class := { plain "java/lang/Enum" (some 0) with
  accessFlags := 1057
  interfaces := #[2, 3, 4]
  cf := some (fileOf pool5 2 #[.nestMembers #[106]] #[] 1057 12 #[111, 113, 115] #[{ accessFlags := 18, nameIndex := 5, descriptorIndex := 6, attributes := #[] }, { accessFlags := 18, nameIndex := 9, descriptorIndex := 10, attributes := #[] }, { accessFlags := 2, nameIndex := 19, descriptorIndex := 10, attributes := #[] }])
  fields := #[{ name := "name", type := (.object "java/lang/String"), accessFlags := 18, slot := 0, constantValue := 0 }, { name := "ordinal", type := .int, accessFlags := 18, slot := 1, constantValue := 0 }, { name := "hash", type := .int, accessFlags := 2, slot := 2, constantValue := 0 }]
  methods := #[]
  instanceTypes := #[(.object "java/lang/String"), .int, .int]
  staticTypes := #[]
  resolved := Array.replicate 204 none
  statics := none }

def pool6 : Array CpInfo := pool [(1, .class_ 2), (0, u "com/example/quayside/quayside/PaymentState"), (2, u "RECEIVED"), (0, u "Lcom/example/quayside/quayside/PaymentState;"), (2, u "ACCEPTED"), (2, u "DISPUTED"), (0, .fieldref 1 14), (0, .nameAndType 15 6), (0, u "AGREED"), (2, u "MANAGER_DISPUTED"), (2, u "MANAGER_REJECTED"), (0, .fieldref 1 23), (0, .nameAndType 24 6), (0, u "REJECTED"), (0, .fieldref 1 26), (0, .nameAndType 27 6), (0, u "CANCELLED"), (2, u "SENT"), (2, u "ACKNOWLEDGED"), (2, u "BROKER_DISPUTED"), (2, u "$VALUES"), (0, u "[Lcom/example/quayside/quayside/PaymentState;"), (6, .class_ 49), (1, u "java/lang/Enum"), (8, u "text"), (0, u "Ljava/lang/String;"), (93, u "isFinal"), (0, u "()Z")] 46

def k6c0 : Code := { maxStack := 2, maxLocals := 1, code := prog_26_method_4_code, exceptionTable := #[], attributes := #[] }
def k6m0 : Method := { name := "isFinal", desc := "()Z", sig := { parameters := [], returnType := some .boolean }, accessFlags := 0, code := some k6c0 }
/-- com/example/quayside/quayside/PaymentState -/
def k6 : Class := { plain "com/example/quayside/quayside/PaymentState" (some 5) with
  accessFlags := 16432
  interfaces := #[]
  cf := some (fileOf pool6 1 #[] #[{ accessFlags := 0, nameIndex := 153, descriptorIndex := 154, attributes := #[] }] 16432 47 #[] #[{ accessFlags := 16409, nameIndex := 5, descriptorIndex := 6, attributes := #[] }, { accessFlags := 16409, nameIndex := 9, descriptorIndex := 6, attributes := #[] }, { accessFlags := 16409, nameIndex := 12, descriptorIndex := 6, attributes := #[] }, { accessFlags := 16409, nameIndex := 15, descriptorIndex := 6, attributes := #[] }, { accessFlags := 16409, nameIndex := 18, descriptorIndex := 6, attributes := #[] }, { accessFlags := 16409, nameIndex := 21, descriptorIndex := 6, attributes := #[] }, { accessFlags := 16409, nameIndex := 24, descriptorIndex := 6, attributes := #[] }, { accessFlags := 16409, nameIndex := 27, descriptorIndex := 6, attributes := #[] }, { accessFlags := 16409, nameIndex := 30, descriptorIndex := 6, attributes := #[] }, { accessFlags := 16409, nameIndex := 33, descriptorIndex := 6, attributes := #[] }, { accessFlags := 16409, nameIndex := 36, descriptorIndex := 6, attributes := #[] }, { accessFlags := 18, nameIndex := 58, descriptorIndex := 59, attributes := #[] }, { accessFlags := 4122, nameIndex := 39, descriptorIndex := 40, attributes := #[] }])
  fields := #[{ name := "RECEIVED", type := (.object "com/example/quayside/quayside/PaymentState"), accessFlags := 16409, slot := 0, constantValue := 0 }, { name := "ACCEPTED", type := (.object "com/example/quayside/quayside/PaymentState"), accessFlags := 16409, slot := 1, constantValue := 0 }, { name := "DISPUTED", type := (.object "com/example/quayside/quayside/PaymentState"), accessFlags := 16409, slot := 2, constantValue := 0 }, { name := "AGREED", type := (.object "com/example/quayside/quayside/PaymentState"), accessFlags := 16409, slot := 3, constantValue := 0 }, { name := "MANAGER_DISPUTED", type := (.object "com/example/quayside/quayside/PaymentState"), accessFlags := 16409, slot := 4, constantValue := 0 }, { name := "MANAGER_REJECTED", type := (.object "com/example/quayside/quayside/PaymentState"), accessFlags := 16409, slot := 5, constantValue := 0 }, { name := "REJECTED", type := (.object "com/example/quayside/quayside/PaymentState"), accessFlags := 16409, slot := 6, constantValue := 0 }, { name := "CANCELLED", type := (.object "com/example/quayside/quayside/PaymentState"), accessFlags := 16409, slot := 7, constantValue := 0 }, { name := "SENT", type := (.object "com/example/quayside/quayside/PaymentState"), accessFlags := 16409, slot := 8, constantValue := 0 }, { name := "ACKNOWLEDGED", type := (.object "com/example/quayside/quayside/PaymentState"), accessFlags := 16409, slot := 9, constantValue := 0 }, { name := "BROKER_DISPUTED", type := (.object "com/example/quayside/quayside/PaymentState"), accessFlags := 16409, slot := 10, constantValue := 0 }, { name := "text", type := (.object "java/lang/String"), accessFlags := 18, slot := 3, constantValue := 0 }, { name := "$VALUES", type := (.array (.object "com/example/quayside/quayside/PaymentState")), accessFlags := 4122, slot := 11, constantValue := 0 }]
  methods := #[k6m0]
  instanceTypes := #[(.object "java/lang/String"), .int, .int, (.object "java/lang/String")]
  staticTypes := #[(.object "com/example/quayside/quayside/PaymentState"), (.object "com/example/quayside/quayside/PaymentState"), (.object "com/example/quayside/quayside/PaymentState"), (.object "com/example/quayside/quayside/PaymentState"), (.object "com/example/quayside/quayside/PaymentState"), (.object "com/example/quayside/quayside/PaymentState"), (.object "com/example/quayside/quayside/PaymentState"), (.object "com/example/quayside/quayside/PaymentState"), (.object "com/example/quayside/quayside/PaymentState"), (.object "com/example/quayside/quayside/PaymentState"), (.object "com/example/quayside/quayside/PaymentState"), (.array (.object "com/example/quayside/quayside/PaymentState"))]
  resolved := Array.replicate 201 none
  statics := some 0 }

def pool7 : Array CpInfo := pool [(1, u "java/lang/Cloneable"), (0, .class_ 1), (0, u "java/lang/Object"), (0, .class_ 3)] 3

/-- java/lang/Cloneable -/
def k7 : Class := { plain "java/lang/Cloneable" (some 0) with
  accessFlags := 1537
  interfaces := #[]
  cf := some (fileOf pool7 2 #[] #[] 1537 4 #[] #[])
  fields := #[]
  methods := #[]
  instanceTypes := #[]
  staticTypes := #[]
  resolved := Array.replicate 8 none
  statics := none }

/-- the primitive byte -/
def k8 : Class := { plain "byte" none with kind := .primitive 'B', accessFlags := 0x411 }
/-- [B -/
def k9 : Class := { plain "[B" (some 0) with kind := .array 8 .byte, interfaces := #[7, 4], accessFlags := 1041 }

/-- the primitive int -/
def k10 : Class := { plain "int" none with kind := .primitive 'I', accessFlags := 0x411 }
/-- [I -/
def k11 : Class := { plain "[I" (some 0) with kind := .array 10 .int, interfaces := #[7, 4], accessFlags := 1041 }

def heap : Heap := #[{ cls := 6, slots := #[.ref 1, .ref 8, .ref 6, .ref 2, .ref 11, .ref 10, .ref 3, .ref 4, .ref 5, .ref 9, .ref 7, .null], vm := .statics 6 },
  { cls := 6, slots := #[.null, .int 0, .int 0, .null], vm := .none },
  { cls := 6, slots := #[.null, .int 3, .int 0, .null], vm := .none },
  { cls := 6, slots := #[.null, .int 6, .int 0, .null], vm := .none },
  { cls := 6, slots := #[.null, .int 7, .int 0, .null], vm := .none },
  { cls := 6, slots := #[.null, .int 8, .int 0, .null], vm := .none },
  { cls := 6, slots := #[.null, .int 2, .int 0, .null], vm := .none },
  { cls := 6, slots := #[.null, .int 10, .int 0, .null], vm := .none },
  { cls := 6, slots := #[.null, .int 1, .int 0, .null], vm := .none },
  { cls := 6, slots := #[.null, .int 9, .int 0, .null], vm := .none },
  { cls := 6, slots := #[.null, .int 5, .int 0, .null], vm := .none },
  { cls := 6, slots := #[.null, .int 4, .int 0, .null], vm := .none }]
def classes : Array Class := #[k0, k1, k2, k3, k4, k5, k6, k7, k8, k9, k10, k11]
def interned : List (Array UInt16 × Addr) := []
def slotsUsed : Nat := 56
def theMethod : MethodId := ⟨1, 2⟩
def args0 : Array Value := #[.int 5]
def aboutOver (below : List Frame) : State where
  vm := { classes := classes, interned := interned.toArray }
  heap := heap
  slotsUsed := slotsUsed
  threads := #[{ frames := .invoking theMethod args0 :: below }]
def below0 : List Frame := [.native { method := ⟨0, 0⟩, args := #[] }]
def about1 : State := aboutOver below0
def p0 : Program := .bare "" "" ""
def e0 : Env := launch0.env 0 0 0
theorem w_frames : about1.frames = Frame.invoking theMethod args0 :: below0 := rfl
set_option maxRecDepth 65536 in
theorem w_args : argsFit about1.vm theMethod args0 = true := by decide +kernel
set_option maxRecDepth 65536 in
theorem w_heap : heapFits about1 = true := by decide +kernel
set_option maxRecDepth 65536 in
theorem w_runnable : about1.curStatus? = some .runnable := by decide +kernel
set_option maxRecDepth 65536 in
theorem w_alone : about1.alone = true := by decide +kernel
set_option maxRecDepth 65536 in
theorem w_named : about1.methodNamed? x = some theMethod := by decide +kernel
set_option maxRecDepth 65536 in
theorem w_hears : about1.hears theMethod below0 = true := by decide +kernel
set_option maxRecDepth 65536 in
theorem w_ripe : about1.ripe theMethod args0 below0 = true := by decide +kernel
theorem w_running : about1.status = .running := rfl
set_option maxRecDepth 65536 in
theorem w_room : about1.hasRoom e0.platform room_1 = true :=
  launch0.hasRoom_least _ room_1 (by decide +kernel) (by decide +kernel) (by decide +kernel) (by decide +kernel) (by decide +kernel) (by decide +kernel)
theorem allAtoms_all (ts : List Jvm.Cond) (a : Array Jvm.Value) (st : Jvm.State) : (allAtoms ts).before a st = ts.all (fun c => c.before a st) := by
  induction ts with
  | nil => rfl
  | cons c t ih =>
    show (Jvm.Cond.and c (allAtoms t)).before a st = _
    rw [Jvm.Cond.before_and, ih, List.all_cons]
def words1 : List Jvm.Cond := Jvm.Cond.code x code maxLocals ret :: tables_1
/-- a 'code' word, met by the world's own term for the bytes: nothing is compared byte by byte -/
theorem code_word {y : MethodName} {bytes : ByteArray} {mx : Nat} {rt : Option FieldType} {a : Array Value} {s : State} {m : MethodId} {meth : Method} {c : Code} (h1 : s.methodNamed? y = some m) (h2 : s.vm.method? m = some meth) (h3 : meth.code = some c) (h4 : c.code = bytes)
    (h5 : (c.maxLocals == mx && c.exceptionTable.isEmpty && decide (c.maxStack ≤ mostOperands) && decide (meth.sig.returnType = rt) && !meth.locks && decide (parseMethodDescriptor y.desc = some meth.sig)) = true) : (Jvm.Cond.code y bytes mx rt).before a s = true := by
  simp only [Bool.and_eq_true, beq_iff_eq, Bool.not_eq_true', decide_eq_true_eq] at h5
  obtain ⟨⟨⟨⟨⟨g1, g2⟩, g3⟩, g4⟩, g5⟩, g6⟩ := h5
  simp [Cond.before, Cond.holds, Cond.value, h1, h2, h3, h4, g1, g2, g3, g4, g5, g6]
def isCode : Jvm.Cond → Bool
  | .code _ _ _ _ => true
  | _ => false
theorem all_split {L : List Jvm.Cond} {P : Jvm.Cond → Bool} (h1 : L.all (fun c => isCode c || P c) = true) (h2 : ∀ c ∈ L.filter isCode, P c = true) : L.all P = true := by
  refine List.all_eq_true.mpr fun c hc => ?_
  have h := List.all_eq_true.mp h1 c hc
  rcases Bool.eq_false_or_eq_true (isCode c) with hi | hi
  · exact h2 c (List.mem_filter.mpr ⟨hc, hi⟩)
  · simpa [hi] using h
set_option maxRecDepth 65536 in
theorem w_c0 : (Jvm.Cond.code x code maxLocals ret).before args0 about1 = true := code_word (m := ⟨1, 2⟩) (meth := k1m2) (c := k1c2) (by decide +kernel) rfl rfl rfl (by decide +kernel)
set_option maxRecDepth 65536 in
theorem w_c1 : (Jvm.Cond.code ({ cls := "com/example/quayside/quayside/PaymentStateIsFinalPinLaw", name := "pick", desc := "(I)Lcom/example/quayside/quayside/PaymentState;" } : Jvm.MethodName) method_2_code (1 : Nat) (Option.some (Jvm.ClassFile.FieldType.object "com/example/quayside/quayside/PaymentState"))).before args0 about1 = true := code_word (m := ⟨1, 1⟩) (meth := k1m1) (c := k1c1) (by decide +kernel) rfl rfl rfl (by decide +kernel)
set_option maxRecDepth 65536 in
theorem w_c2 : (Jvm.Cond.code ({ cls := "com/example/quayside/quayside/PaymentState", name := "isFinal", desc := "()Z" } : Jvm.MethodName) prog_26_method_4_code (1 : Nat) (Option.some Jvm.ClassFile.FieldType.boolean)).before args0 about1 = true := code_word (m := ⟨6, 0⟩) (meth := k6m0) (c := k6c0) (by decide +kernel) rfl rfl rfl (by decide +kernel)
def codes1 : List Jvm.Cond := [Jvm.Cond.code x code maxLocals ret, Jvm.Cond.code ({ cls := "com/example/quayside/quayside/PaymentStateIsFinalPinLaw", name := "pick", desc := "(I)Lcom/example/quayside/quayside/PaymentState;" } : Jvm.MethodName) method_2_code (1 : Nat) (Option.some (Jvm.ClassFile.FieldType.object "com/example/quayside/quayside/PaymentState")), Jvm.Cond.code ({ cls := "com/example/quayside/quayside/PaymentState", name := "isFinal", desc := "()Z" } : Jvm.MethodName) prog_26_method_4_code (1 : Nat) (Option.some Jvm.ClassFile.FieldType.boolean)]
set_option maxRecDepth 65536 in
theorem codes_eq : words1.filter isCode = codes1 := rfl
theorem w_codes : ∀ c ∈ words1.filter isCode, c.before args0 about1 = true := by
  rw [codes_eq]
  intro c hc
  simp only [codes1, List.mem_cons, List.not_mem_nil, or_false] at hc
  rcases hc with rfl | rfl | rfl
  · exact w_c0
  · exact w_c1
  · exact w_c2
set_option maxRecDepth 65536 in
theorem w_t1 : (words1.take 24).all (fun c => isCode c || c.before args0 about1) = true := by decide +kernel
set_option maxRecDepth 65536 in
theorem w_t2 : (words1.drop 24).all (fun c => isCode c || c.before args0 about1) = true := by decide +kernel
theorem w_tables : (allAtoms (Jvm.Cond.code x code maxLocals ret :: tables_1)).before args0 about1 = true := by
  rw [allAtoms_all]
  show words1.all (fun c => c.before args0 about1) = true
  refine all_split ?_ w_codes
  rw [← List.take_append_drop 24 words1, List.all_append, w_t1, w_t2]
  rfl
set_option maxRecDepth 65536 in
theorem w_case : (Jvm.Cond.and given_1 narrow_1).before args0 about1 = true := by decide +kernel
theorem w_applies : (headSpec (Jvm.Cond.code x code maxLocals ret :: tables_1) room_1).applies x e0.platform about1 = true :=
  (Spec.applies_iff w_frames).mpr ⟨w_running, w_runnable, w_alone, w_named, w_hears, w_ripe, w_room, w_tables⟩
theorem atStart : AtStart classFile x code maxLocals ret World_1 tables_1 room_1 Calls_1 rest_1 Pre_1 launch0 p0 e0 about1 theMethod args0 below0 :=
  ⟨lists_1, trivial, launch0.admits_env _ _ _, launch0.least_env, fairChoices_fair.cas, fairChoices_fair.clock, w_frames, w_args, w_heap, w_applies, trivial, trivial, w_case⟩
end start1
theorem witness_1 : WitnessClaimed_1 := ⟨start1.p0, start1.e0, start1.about1, start1.theMethod, start1.args0, start1.below0, start1.atStart⟩
end Jvm.Pilot.@@N@@
