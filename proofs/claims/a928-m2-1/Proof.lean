import JvmDerived
import JvmDerived.Pilot.@@N@@Statement
import JvmDerived.Pilot.@@N@@Code
set_option linter.unusedVariables false
set_option linter.unusedSimpArgs false
namespace Jvm.RoadKit
open Sem ClassFile Op Lib Jvm.Stand Jvm.Free Jvm.LawKit
section New
variable {p : Program} {l : Launch} {e : Env} {R : Room} {s : State} {m : MethodId} {args : Array Value} {below : List Frame} {meth : Method} {c : Code} {T : State} {locs : List Loc} {cells slots : Nat}
theorem retI (X : Stand p l e R s m args below meth c T locs cells slots) (hx : p.tables.exec = Jvm.exec) {pc : Nat} {Ls : Array Slot} {z : Int32} {rest : List Value} (hret : meth.sig.returnType = some .int) (hd : decode c.code pc = .ok (.ireturn, 1)) {fs : List Frame}
    (hl : ∀ (f : JFrame) (acts : List Action), f.method = m → f.locked = none → f.entered = [] → (doReturn e (T.setTop f) acts (some (.int z))).1 = T.setFrames fs) : Steps p.tables e below (T.setTop (mkF m pc Ls (.int z :: rest))) (T.setFrames fs) := by
  have hm' : T.vm.method? m = some meth := X.method'
  have hn : narrow .int (.int z) = .int z := rfl
  show Steps p.tables e below (T.setTop { method := m, pc := pc, locals := Ls, stack := _ :: rest, locked := none }) _
  jvm_step X.here [X.here.top, hx, hd, hm', hret, hn]
  first | (intro acts; rw [hl _ acts rfl rfl rfl]) | rw [hl _ _ rfl rfl rfl]
  exact Steps.refl _
end New
end Jvm.RoadKit
namespace Jvm.Pilot.@@N@@
open Jvm Jvm.ClassFile Sem Op Lib Jvm.Free Jvm.Stand Jvm.LawKit Jvm.RoadKit Bundle Jvm.Pilot.@@N@@.Jvm.D
def own_R (s : State) (below : List Frame) (Q : Option Value → Heap → List Loc → Prop) (rc rs : Nat) (t : State) (o : Outcome) : Prop := t.status = .running ∧ Ended t below o ∧ ∃ v L, o = .returned v ∧ Q v t.heap L ∧ FrameEnd s o t L rc rs
def own_RW (s : State) (below : List Frame) (Q : Option Value → Heap → List Loc → Prop) (rc rs : Nat) (t : State) (o : Outcome) : Prop := t.status = .running ∧ Ended t below o ∧ ∃ v L, o = .returned v ∧ Q v t.heap L ∧ ReturnedEndW s o t L rc rs
def own_Go (p : Program) (e : Env) (below : List Frame) (Rr : State → Outcome → Prop) (S : State) : Prop := ∃ t o, Steps p.tables e below S t ∧ Rr t o
section OwnGo
variable {p : Program} {l : Launch} {e : Env} {R : Room} {s : State} {m : MethodId} {args : Array Value} {below : List Frame} {meth : Method} {c : Code} {T : State} {locs : List Loc} {cells slots : Nat} {Q : Option Value → Heap → List Loc → Prop} {rc rs : Nat} {S S' : State} {Rr : State → Outcome → Prop}
theorem own_bk (st : ∀ t, Steps p.tables e below S' t → Steps p.tables e below S t) (k : own_Go p e below Rr S') : own_Go p e below Rr S := by
  obtain ⟨t, o, h1, h2⟩ := k; exact ⟨t, o, st t h1, h2⟩
theorem own_seg (f : own_Go p e below Rr S' → own_Go p e below Rr S) (k : own_Go p e below Rr S') : own_Go p e below Rr S := f k
theorem own_tr (st : Steps p.tables e below S S') (k : own_Go p e below Rr S') : own_Go p e below Rr S := own_bk (fun t k => st.trans k) k
theorem own_retN (X : Stand p l e R s m args below meth c T locs cells slots) (hx : p.tables.exec = Jvm.exec) (hlk : meth.locks = false) {pc : Nat} {Ls : Array Slot} {z w : Int32} {t : FieldType} {rest : List Value} (hret : meth.sig.returnType = some t) (ht : t = .boolean ∨ t = .byte ∨ t = .char ∨ t = .short) (hd : decode c.code pc = .ok (.ireturn, 1)) (hz : nar t z = w)
    (hQ : Q (some (.int w)) T.heap locs) (hc : cells ≤ rc) (hs : slots ≤ rs) : own_Go p e below (own_R s below Q rc rs) (T.setTop (mkF m pc Ls (.int z :: rest))) := by
  subst hz
  obtain ⟨fs, hr, hrun, hended, hW, hsame⟩ := X.leave (v := some (.int (nar t z))) (fun h => by rw [hret] at h; cases h) hlk
  exact ⟨_, _, retN X hx hret ht hd hr, hrun, hended, _, _, rfl, hQ, ⟨_, rfl⟩, hW, hsame.mono hc hs⟩
theorem own_retNW {vm1 : Vm} {n1 : Nat} (hS : s.Since vm1 n1) (X : Stand p l e R (s.setVm vm1) m args below meth c T locs cells slots) (hn1 : n1 ≤ T.heap.size) (hx : p.tables.exec = Jvm.exec) (hlk : meth.locks = false) {pc : Nat} {Ls : Array Slot} {z w : Int32} {t : FieldType} {rest : List Value} (hret : meth.sig.returnType = some t) (ht : t = .boolean ∨ t = .byte ∨ t = .char ∨ t = .short) (hd : decode c.code pc = .ok (.ireturn, 1)) (hz : nar t z = w)
    (hQ : Q (some (.int w)) T.heap locs) (hc : cells ≤ rc) (hs : slots ≤ rs) : own_Go p e below (own_RW s below Q rc rs) (T.setTop (mkF m pc Ls (.int z :: rest))) := by
  subst hz
  obtain ⟨fs, hr, hrun, hended, hE⟩ := X.leaveW hS hn1 (v := some (.int (nar t z))) (fun h => by rw [hret] at h; cases h) hlk
  exact ⟨_, _, retN X hx hret ht hd hr, hrun, hended, _, _, rfl, hQ, hE.1, hE.2.1, hE.2.2.1, hE.2.2.2.mono hc hs⟩
theorem own_retI (X : Stand p l e R s m args below meth c T locs cells slots) (hx : p.tables.exec = Jvm.exec) (hlk : meth.locks = false) {pc : Nat} {Ls : Array Slot} {z : Int32} {rest : List Value} (hret : meth.sig.returnType = some .int) (hd : decode c.code pc = .ok (.ireturn, 1))
    (hQ : Q (some (.int z)) T.heap locs) (hc : cells ≤ rc) (hs : slots ≤ rs) : own_Go p e below (own_R s below Q rc rs) (T.setTop (mkF m pc Ls (.int z :: rest))) := by
  obtain ⟨fs, hr, hrun, hended, hW, hsame⟩ := X.leave (v := some (.int z)) (fun h => by rw [hret] at h; cases h) hlk
  exact ⟨_, _, retI X hx hret hd hr, hrun, hended, _, _, rfl, hQ, ⟨_, rfl⟩, hW, hsame.mono hc hs⟩
theorem own_retIW {vm1 : Vm} {n1 : Nat} (hS : s.Since vm1 n1) (X : Stand p l e R (s.setVm vm1) m args below meth c T locs cells slots) (hn1 : n1 ≤ T.heap.size) (hx : p.tables.exec = Jvm.exec) (hlk : meth.locks = false) {pc : Nat} {Ls : Array Slot} {z : Int32} {rest : List Value} (hret : meth.sig.returnType = some .int) (hd : decode c.code pc = .ok (.ireturn, 1))
    (hQ : Q (some (.int z)) T.heap locs) (hc : cells ≤ rc) (hs : slots ≤ rs) : own_Go p e below (own_RW s below Q rc rs) (T.setTop (mkF m pc Ls (.int z :: rest))) := by
  obtain ⟨fs, hr, hrun, hended, hE⟩ := X.leaveW hS hn1 (v := some (.int z)) (fun h => by rw [hret] at h; cases h) hlk
  exact ⟨_, _, retI X hx hret hd hr, hrun, hended, _, _, rfl, hQ, hE.1, hE.2.1, hE.2.2.1, hE.2.2.2.mono hc hs⟩
theorem own_retJ (X : Stand p l e R s m args below meth c T locs cells slots) (hx : p.tables.exec = Jvm.exec) (hlk : meth.locks = false) {pc : Nat} {Ls : Array Slot} {z : Int64} {rest : List Value} (hret : meth.sig.returnType = some .long) (hd : decode c.code pc = .ok (.lreturn, 1))
    (hQ : Q (some (.long z)) T.heap locs) (hc : cells ≤ rc) (hs : slots ≤ rs) : own_Go p e below (own_R s below Q rc rs) (T.setTop (mkF m pc Ls (.long z :: rest))) := by
  obtain ⟨fs, hr, hrun, hended, hW, hsame⟩ := X.leave (v := some (.long z)) (fun h => by rw [hret] at h; cases h) hlk
  exact ⟨_, _, retOut X hx hret rfl (Or.inr (Or.inl ⟨rfl, rfl, z, rfl⟩)) hd hr, hrun, hended, _, _, rfl, hQ, ⟨_, rfl⟩, hW, hsame.mono hc hs⟩
theorem own_retJW {vm1 : Vm} {n1 : Nat} (hS : s.Since vm1 n1) (X : Stand p l e R (s.setVm vm1) m args below meth c T locs cells slots) (hn1 : n1 ≤ T.heap.size) (hx : p.tables.exec = Jvm.exec) (hlk : meth.locks = false) {pc : Nat} {Ls : Array Slot} {z : Int64} {rest : List Value} (hret : meth.sig.returnType = some .long) (hd : decode c.code pc = .ok (.lreturn, 1))
    (hQ : Q (some (.long z)) T.heap locs) (hc : cells ≤ rc) (hs : slots ≤ rs) : own_Go p e below (own_RW s below Q rc rs) (T.setTop (mkF m pc Ls (.long z :: rest))) := by
  obtain ⟨fs, hr, hrun, hended, hE⟩ := X.leaveW hS hn1 (v := some (.long z)) (fun h => by rw [hret] at h; cases h) hlk
  exact ⟨_, _, retOut X hx hret rfl (Or.inr (Or.inl ⟨rfl, rfl, z, rfl⟩)) hd hr, hrun, hended, _, _, rfl, hQ, hE.1, hE.2.1, hE.2.2.1, hE.2.2.2.mono hc hs⟩
theorem own_retA (X : Stand p l e R s m args below meth c T locs cells slots) (hx : p.tables.exec = Jvm.exec) (hlk : meth.locks = false) {pc : Nat} {Ls : Array Slot} {w : Value} {t : FieldType} {rest : List Value} (hret : meth.sig.returnType = some t) (ht : t.isReference = true) (hw : w.isRef = true) (hn : narrow t w = w) (hd : decode c.code pc = .ok (.areturn, 1))
    (hQ : Q (some w) T.heap locs) (hc : cells ≤ rc) (hs : slots ≤ rs) : own_Go p e below (own_R s below Q rc rs) (T.setTop (mkF m pc Ls (w :: rest))) := by
  obtain ⟨fs, hr, hrun, hended, hW, hsame⟩ := X.leave (v := some w) (fun h => by rw [hret] at h; cases h) hlk
  exact ⟨_, _, retOut X hx hret hn (Or.inr (Or.inr (Or.inr (Or.inr ⟨rfl, ht, hw⟩)))) hd hr, hrun, hended, _, _, rfl, hQ, ⟨_, rfl⟩, hW, hsame.mono hc hs⟩
theorem own_retAW {vm1 : Vm} {n1 : Nat} (hS : s.Since vm1 n1) (X : Stand p l e R (s.setVm vm1) m args below meth c T locs cells slots) (hn1 : n1 ≤ T.heap.size) (hx : p.tables.exec = Jvm.exec) (hlk : meth.locks = false) {pc : Nat} {Ls : Array Slot} {w : Value} {t : FieldType} {rest : List Value} (hret : meth.sig.returnType = some t) (ht : t.isReference = true) (hw : w.isRef = true) (hn : narrow t w = w) (hd : decode c.code pc = .ok (.areturn, 1))
    (hQ : Q (some w) T.heap locs) (hc : cells ≤ rc) (hs : slots ≤ rs) : own_Go p e below (own_RW s below Q rc rs) (T.setTop (mkF m pc Ls (w :: rest))) := by
  obtain ⟨fs, hr, hrun, hended, hE⟩ := X.leaveW hS hn1 (v := some w) (fun h => by rw [hret] at h; cases h) hlk
  exact ⟨_, _, retOut X hx hret hn (Or.inr (Or.inr (Or.inr (Or.inr ⟨rfl, ht, hw⟩)))) hd hr, hrun, hended, _, _, rfl, hQ, hE.1, hE.2.1, hE.2.2.1, hE.2.2.2.mono hc hs⟩
theorem own_retV (X : Stand p l e R s m args below meth c T locs cells slots) (hx : p.tables.exec = Jvm.exec) (hlk : meth.locks = false) {pc : Nat} {Ls : Array Slot} (hret : meth.sig.returnType = none) (hd : decode c.code pc = .ok (.return_, 1))
    (hQ : Q none T.heap locs) (hc : cells ≤ rc) (hs : slots ≤ rs) : own_Go p e below (own_R s below Q rc rs) (T.setTop (mkF m pc Ls [])) := by
  obtain ⟨fs, hr, hrun, hended, hW, hsame⟩ := X.leave (v := none) (fun _ => rfl) hlk
  exact ⟨_, _, X.returnOut hx hret hd hr, hrun, hended, _, _, rfl, hQ, ⟨_, rfl⟩, hW, hsame.mono hc hs⟩
theorem own_retVW {vm1 : Vm} {n1 : Nat} (hS : s.Since vm1 n1) (X : Stand p l e R (s.setVm vm1) m args below meth c T locs cells slots) (hn1 : n1 ≤ T.heap.size) (hx : p.tables.exec = Jvm.exec) (hlk : meth.locks = false) {pc : Nat} {Ls : Array Slot} (hret : meth.sig.returnType = none) (hd : decode c.code pc = .ok (.return_, 1))
    (hQ : Q none T.heap locs) (hc : cells ≤ rc) (hs : slots ≤ rs) : own_Go p e below (own_RW s below Q rc rs) (T.setTop (mkF m pc Ls [])) := by
  obtain ⟨fs, hr, hrun, hended, hE⟩ := X.leaveW hS hn1 (v := none) (fun _ => rfl) hlk
  exact ⟨_, _, X.returnOut hx hret hd hr, hrun, hended, _, _, rfl, hQ, hE.1, hE.2.1, hE.2.2.1, hE.2.2.2.mono hc hs⟩
end OwnGo
/-- an enum constant of the start: what its static holds, its class, its ordinal -/
def own_E (Z : State) (h : Heap) (r : Addr) (C n d : String) (k : Int32) : Prop := Sta Z h C n d (.ref r) ∧ Exa Z h r C ∧ Fld Z h r "java/lang/Enum" "ordinal" "I" (.int k)
theorem own_E.ext {Z : State} {h h' : Heap} {r : Addr} {C n d : String} {k : Int32} (G : own_E Z h r C n d k) (E : Ext h h') : own_E Z h' r C n d k := ⟨G.1.ext E, G.2.1.ext E, G.2.2.ext E⟩
theorem own_E.ne {Z : State} {h : Heap} {r r' : Addr} {C n d C' n' d' : String} {k k' : Int32} (G : own_E Z h r C n d k) (G' : own_E Z h r' C' n' d' k') (q : k ≠ k') : r ≠ r' := Fld.ne G.2.2 G'.2.2 (fun e => q (Value.int.inj e))
theorem own_fldInt {args : Array Value} {s : State} {t : Term} {C n d : String} {k : Int32} {a : Addr} (h : (Jvm.Cond.eq (.field t C n d) (.int k)).value args s none s [] = some true) (ev : t.eval args s none [] s = some (.ref a)) : s.fieldOf? a C n d = some (.int k) := by
  obtain ⟨x, y, h1, h2, h3, h4⟩ := cmp_v (Or.inl h)
  have h5 : (Term.int k).eval args s none [] s = some (.int k) := Term.int_eval k
  cases h5.symm.trans h2
  obtain ⟨z, rfl⟩ := h4
  have h6 : z = k := gotT (Cond.eq_ints h1 h5) h
  subst h6
  rw [← fld_at ev]; exact h1
theorem own_eq1 {x y : Int32} (h : x = y) : if_icmp.holds .eq x y = true := (teq h).1

theorem d1_0 : decode prog_33_method_6_code 0 = .ok (.aload_n 0, 1) := by decide +kernel
theorem d1_1 : decode prog_33_method_6_code 1 = .ok (.getstatic 10, 3) := by decide +kernel
theorem d1_4 : decode prog_33_method_6_code 4 = .ok (.if_acmp .eq 10, 3) := by decide +kernel
theorem d1_7 : decode prog_33_method_6_code 7 = .ok (.aload_n 0, 1) := by decide +kernel
theorem d1_8 : decode prog_33_method_6_code 8 = .ok (.getstatic 13, 3) := by decide +kernel
theorem d1_11 : decode prog_33_method_6_code 11 = .ok (.if_acmp .ne 7, 3) := by decide +kernel
theorem d1_14 : decode prog_33_method_6_code 14 = .ok (.iconst 1, 1) := by decide +kernel
theorem d1_15 : decode prog_33_method_6_code 15 = .ok (.goto 4, 3) := by decide +kernel
theorem d1_18 : decode prog_33_method_6_code 18 = .ok (.iconst 0, 1) := by decide +kernel
theorem d1_19 : decode prog_33_method_6_code 19 = .ok (.ireturn, 1) := by decide +kernel
theorem ef_rm1 (m : MethodId) (x0 : Addr) : entryFrame m #[(.ref x0)] 1 = mkF m 0 #[.val (.ref x0)] [] := by first | (simp [entryFrame, mkF, argsToLocals, Value.category, maxLocals]; done) | rfl
def Q_rm1 (Z : State) (a wR wA : Addr) (b : Int32) (h0 : Heap) (n0 : Nat) (v : Option Value) (h : Heap) (L : List Loc) : Prop := v = some (.int b) ∧ Fr n0 L ∧ h = h0
set_option maxRecDepth 65536 in
set_option maxHeartbeats 40000000 in
theorem rm1 (l : Launch) (Z : State) (a0 : Array Value) (hw : ∀ d ∈ tables_1, d.before a0 Z = true) (ws : List Jvm.Cond) (a wR wA : Addr) (b : Int32) (h0 : Heap) (n0 : Nat) (Z0 : n0 ≤ h0.size) (S1 : Sta Z h0 "com/example/overweave/overweave/merge/NodeMarker" "REMOVE" "Lcom/example/overweave/overweave/merge/NodeMarker;" (.ref wR)) (S2 : Sta Z h0 "com/example/overweave/overweave/merge/NodeMarker" "REMOVE_ALL" "Lcom/example/overweave/overweave/merge/NodeMarker;" (.ref wA)) (hv : (if a = wR ∨ a = wA then 1 else 0 : Int32) = b) :
    MetFree l (⟨"com/example/overweave/overweave/merge/NodeMarker", "removesMarkedElement", "()Z"⟩ : MethodName) (head1 (Jvm.Cond.code (⟨"com/example/overweave/overweave/merge/NodeMarker", "removesMarkedElement", "()Z"⟩ : MethodName) prog_33_method_6_code 1 (some .boolean) :: ws) ({ frames := 0, cells := 0, slots := 0, locals := 0 } : Room)) (fun as_ U_ => as_ = #[(.ref a)] ∧ Z.Warmed39 U_.vm ∧ U_.heap = h0) (fun _ _ _ _ _ => True) (fun _ U_ o_ U2_ => ∃ v_ L_, o_ = .returned v_ ∧ (Q_rm1 Z a wR wA b h0 n0) v_ U2_.heap L_ ∧ FrameEnd U_ o_ U2_ L_ ({ frames := 0, cells := 0, slots := 0, locals := 0 } : Room).cells ({ frames := 0, cells := 0, slots := 0, locals := 0 } : Room).slots) := by
  refine MetFree.of_bodySF (plainFor_of_name (by first | (simp [plainName, overriddenIn]; done) | decide +kernel : plainName "com/example/overweave/overweave/merge/NodeMarker" = true)) hisR ?_
  intro p e s m args below meth c s₁ Bd hml0 hP hK
  obtain ⟨rfl, hZ, hh⟩ := hP
  have hx := Bd.exec
  have hby := Bd.bytes
  have hlk := Bd.notSynchronized
  have hml : c.maxLocals = 1 := hml0
  have hown : s.vm.findClass "com/example/overweave/overweave/merge/NodeMarker" = some m.cls := findClass_of_methodNamed Bd.named
  have hnm := (name_of_methodNamed Bd.named Bd.method).1
  have X0 : Stand p l e ({ frames := 0, cells := 0, slots := 0, locals := 0 } : Room) s m #[(.ref a)] below meth c s₁ [] 0 0 := Stand.of_body Bd
  have e0 : s₁.heap = h0 := by rw [← hh, Bd.state]; rfl
  have N0 := Fr.nil n0
  show own_Go p e below (own_R s below (Q_rm1 Z a wR wA b h0 n0) ({ frames := 0, cells := 0, slots := 0, locals := 0 } : Room).cells ({ frames := 0, cells := 0, slots := 0, locals := 0 } : Room).slots) (s₁.setTop (entryFrame m #[(.ref a)] 1))
  refine own_bk (S' := (s₁.setTop (mkF m 0 #[rv a] []))) (fun t_ kont => castTop (ef_rm1 m (a)) kont) ?_
  refine own_bk (S' := (s₁.setTop (mkF m 1 #[rv a] [(.ref a)]))) (fun t_ kont => XS.aloadN X0.here hx rfl (hb hby d1_0) rfl rfl kont) ?_
  obtain ⟨T1, X2, e3, st4⟩ := getS2 X0 hx hZ hown (host := "") (Or.inl (hw _ (List.mem_of_getElem? (i := 9) rfl))) Via.refl e0 S1 (g := (mkF m 1 #[rv a] [(.ref a)])) rfl (hb hby d1_1)
  refine own_bk (S' := (T1.setTop (mkF m 4 #[rv a] [(.ref wR), (.ref a)]))) st4 ?_
  by_cases hc5 : a = wR
  · refine own_bk (S' := (T1.setTop (mkF m 14 #[rv a] []))) (fun t_ kont => Jvm.RoadKit.acmp (g := (mkF m 4 #[rv a] [(.ref wR), (.ref a)])) X2 hx rfl rfl rfl (pc0 := 4) (pc' := 14) (same := true) rfl (hb hby d1_4) rfl (decide_eq_true (congrArg _ hc5)) (by decide) (by decide) kont) ?_
    refine own_bk (S' := (T1.setTop (mkF m 15 #[rv a] [(.int (1 : Int32))]))) (fun t_ kont => XS.iconst X2.here hx rfl (hb hby d1_14) kont) ?_
    refine own_bk (S' := (T1.setTop (mkF m 19 #[rv a] [(.int (1 : Int32))]))) (fun t_ kont => XS.goto X2.here hx rfl (pc0 := 15) (pc' := 19) rfl (hb hby d1_15) (by decide) (by decide) kont) ?_
    exact own_retN X2 hx hlk (t := .boolean) (w := (1 : Int32)) Bd.returns (by simp) (hb hby d1_19) rfl ⟨by rw [← hv]; simp [hc5], N0, e3⟩ (by decide) (by decide)
  · refine own_bk (S' := (T1.setTop (mkF m 7 #[rv a] []))) (fun t_ kont => Jvm.RoadKit.acmp (g := (mkF m 4 #[rv a] [(.ref wR), (.ref a)])) X2 hx rfl rfl rfl (pc0 := 4) (pc' := 7) (same := false) rfl (hb hby d1_4) rfl (decide_eq_false (fun q => hc5 (Value.ref.inj q))) (by decide) (by decide) kont) ?_
    refine own_bk (S' := (T1.setTop (mkF m 8 #[rv a] [(.ref a)]))) (fun t_ kont => XS.aloadN X2.here hx rfl (hb hby d1_7) rfl rfl kont) ?_
    obtain ⟨T6, X7, e8, st9⟩ := getS2 X2 hx hZ hown (host := "") (Or.inl (hw _ (List.mem_of_getElem? (i := 11) rfl))) Via.refl e3 S2 (g := (mkF m 8 #[rv a] [(.ref a)])) rfl (hb hby d1_8)
    refine own_bk (S' := (T6.setTop (mkF m 11 #[rv a] [(.ref wA), (.ref a)]))) st9 ?_
    by_cases hc10 : a = wA
    · refine own_bk (S' := (T6.setTop (mkF m 14 #[rv a] []))) (fun t_ kont => Jvm.RoadKit.acmp (g := (mkF m 11 #[rv a] [(.ref wA), (.ref a)])) X7 hx rfl rfl rfl (pc0 := 11) (pc' := 14) (same := true) rfl (hb hby d1_11) rfl (decide_eq_true (congrArg _ hc10)) (by decide) (by decide) kont) ?_
      refine own_bk (S' := (T6.setTop (mkF m 15 #[rv a] [(.int (1 : Int32))]))) (fun t_ kont => XS.iconst X7.here hx rfl (hb hby d1_14) kont) ?_
      refine own_bk (S' := (T6.setTop (mkF m 19 #[rv a] [(.int (1 : Int32))]))) (fun t_ kont => XS.goto X7.here hx rfl (pc0 := 15) (pc' := 19) rfl (hb hby d1_15) (by decide) (by decide) kont) ?_
      exact own_retN X7 hx hlk (t := .boolean) (w := (1 : Int32)) Bd.returns (by simp) (hb hby d1_19) rfl ⟨by rw [← hv]; simp [hc5, hc10], N0, e8⟩ (by decide) (by decide)
    · refine own_bk (S' := (T6.setTop (mkF m 18 #[rv a] []))) (fun t_ kont => Jvm.RoadKit.acmp (g := (mkF m 11 #[rv a] [(.ref wA), (.ref a)])) X7 hx rfl rfl rfl (pc0 := 11) (pc' := 18) (same := false) rfl (hb hby d1_11) rfl (decide_eq_false (fun q => hc10 (Value.ref.inj q))) (by decide) (by decide) kont) ?_
      refine own_bk (S' := (T6.setTop (mkF m 19 #[rv a] [(.int (0 : Int32))]))) (fun t_ kont => XS.iconst X7.here hx rfl (hb hby d1_18) kont) ?_
      exact own_retN X7 hx hlk (t := .boolean) (w := (0 : Int32)) Bd.returns (by simp) (hb hby d1_19) rfl ⟨by rw [← hv]; simp [hc5, hc10], N0, e8⟩ (by decide) (by decide)
theorem ef_rm0 (m : MethodId) (x0 : Int32) : entryFrame m #[(.int x0)] maxLocals = mkF m 0 #[.val (.int x0), .unset, .unset, .unset] [] := by first | (simp [entryFrame, mkF, argsToLocals, Value.category, maxLocals]; done) | rfl
def Q_rm0 (Z : State) (v0 : Int32) (r_MERGE r_REMOVE r_REMOVE_ALL r_MERGE_ONLY_ATTRIBUTES r_STRICT r_REPLACE : Addr) (h0 : Heap) (n0 : Nat) (v : Option Value) (h : Heap) (L : List Loc) : Prop := v = some (.int 1) ∧ Fr n0 L
set_option maxRecDepth 65536 in
set_option maxHeartbeats 40000000 in
theorem rm0 (l : Launch) (Z : State) (a0 : Array Value) (hw : ∀ d ∈ tables_1, d.before a0 Z = true) (ws : List Jvm.Cond) (v0 : Int32) (r_MERGE r_REMOVE r_REMOVE_ALL r_MERGE_ONLY_ATTRIBUTES r_STRICT r_REPLACE : Addr) (h0 : Heap) (n0 : Nat) (Z0 : n0 ≤ h0.size) (G_MERGE : own_E Z h0 r_MERGE "com/example/overweave/overweave/merge/NodeMarker" "MERGE" "Lcom/example/overweave/overweave/merge/NodeMarker;" 0) (G_REMOVE : own_E Z h0 r_REMOVE "com/example/overweave/overweave/merge/NodeMarker" "REMOVE" "Lcom/example/overweave/overweave/merge/NodeMarker;" 2) (G_REMOVE_ALL : own_E Z h0 r_REMOVE_ALL "com/example/overweave/overweave/merge/NodeMarker" "REMOVE_ALL" "Lcom/example/overweave/overweave/merge/NodeMarker;" 3) (G_MERGE_ONLY_ATTRIBUTES : own_E Z h0 r_MERGE_ONLY_ATTRIBUTES "com/example/overweave/overweave/merge/NodeMarker" "MERGE_ONLY_ATTRIBUTES" "Lcom/example/overweave/overweave/merge/NodeMarker;" 1) (G_STRICT : own_E Z h0 r_STRICT "com/example/overweave/overweave/merge/NodeMarker" "STRICT" "Lcom/example/overweave/overweave/merge/NodeMarker;" 5) (G_REPLACE : own_E Z h0 r_REPLACE "com/example/overweave/overweave/merge/NodeMarker" "REPLACE" "Lcom/example/overweave/overweave/merge/NodeMarker;" 4) :
    MetFree l x (head1 (Jvm.Cond.code x code maxLocals ret :: ws) room_1) (fun as_ U_ => as_ = #[(.int v0)] ∧ Z.Warmed39 U_.vm ∧ U_.heap = h0) (fun _ _ _ _ _ => True) (fun _ U_ o_ U2_ => ∃ v_ L_, o_ = .returned v_ ∧ (Q_rm0 Z v0 r_MERGE r_REMOVE r_REMOVE_ALL r_MERGE_ONLY_ATTRIBUTES r_STRICT r_REPLACE h0 n0) v_ U2_.heap L_ ∧ FrameEnd U_ o_ U2_ L_ room_1.cells room_1.slots) := by
  refine MetFree.of_bodySF (plainFor_of_name (by first | (simp [plainName, overriddenIn]; done) | decide +kernel : plainName "com/example/overweave/overweave/merge/NodeMarkerRemovesMarkedElementPinLaw" = true)) hisR ?_
  intro p e s m args below meth c s₁ Bd hml0 hP hK
  obtain ⟨rfl, hZ, hh⟩ := hP
  have hx := Bd.exec
  have hby := Bd.bytes
  have hlk := Bd.notSynchronized
  have hml : c.maxLocals = 4 := hml0
  have hown : s.vm.findClass "com/example/overweave/overweave/merge/NodeMarkerRemovesMarkedElementPinLaw" = some m.cls := findClass_of_methodNamed Bd.named
  have hnm := (name_of_methodNamed Bd.named Bd.method).1
  have X0 : Stand p l e room_1 s m #[(.int v0)] below meth c s₁ [] 0 0 := Stand.of_body Bd
  have e0 : s₁.heap = h0 := by rw [← hh, Bd.state]; rfl
  have N0 := Fr.nil n0
  show own_Go p e below (own_R s below (Q_rm0 Z v0 r_MERGE r_REMOVE r_REMOVE_ALL r_MERGE_ONLY_ATTRIBUTES r_STRICT r_REPLACE h0 n0) room_1.cells room_1.slots) (s₁.setTop (entryFrame m #[(.int v0)] maxLocals))
  refine own_bk (S' := (s₁.setTop (mkF m 0 #[iv v0, .unset, .unset, .unset] []))) (fun t_ kont => castTop (ef_rm0 m (v0)) kont) ?_
  refine own_bk (S' := (s₁.setTop (mkF m 1 #[iv v0, .unset, .unset, .unset] [(.int v0)]))) (fun t_ kont => XS.iloadN X0.here hx rfl (hb hby at_0) rfl kont) ?_
  refine own_bk (S' := (s₁.setTop (mkF m 3 #[iv v0, .unset, .unset, .unset] [(.int (2147483647 : Int32)), (.int v0)]))) (fun t_ kont => X0.ldcI hx hown (mvT hZ (hw _ (List.mem_of_getElem? (i := 0) rfl))) rfl (hb hby at_1) kont) ?_
  refine own_bk (S' := (s₁.setTop (mkF m 4 #[iv v0, .unset, .unset, .unset] [(.int (v0 &&& (2147483647 : Int32)))]))) (fun t_ kont => XS.iand X0.here hx rfl (hb hby at_3) rfl kont) ?_
  refine own_bk (S' := (s₁.setTop (mkF m 6 #[iv v0, .unset, .unset, .unset] [(.int (6 : Int32)), (.int (v0 &&& (2147483647 : Int32)))]))) (fun t_ kont => XS.bipush X0.here hx rfl (hb hby at_4) kont) ?_
  refine own_bk (S' := (s₁.setTop (mkF m 7 #[iv v0, .unset, .unset, .unset] [(.int ((v0 &&& (2147483647 : Int32)) % (6 : Int32)))]))) (fun t_ kont => iremM X0 hx rfl (hb hby at_6) rfl (by decide) kont) ?_
  refine own_bk (S' := (s₁.setTop (mkF m 8 #[iv v0, iv ((v0 &&& (2147483647 : Int32)) % (6 : Int32)), .unset, .unset] []))) (fun t_ kont => XS.istoreN X0.here hx rfl (hb hby at_7) rfl (l' := #[iv v0, iv ((v0 &&& (2147483647 : Int32)) % (6 : Int32)), .unset, .unset]) rfl kont) ?_
  refine own_bk (S' := (s₁.setTop (mkF m 9 #[iv v0, iv ((v0 &&& (2147483647 : Int32)) % (6 : Int32)), .unset, .unset] [(.int ((v0 &&& (2147483647 : Int32)) % (6 : Int32)))]))) (fun t_ kont => XS.iloadN X0.here hx rfl (hb hby at_8) rfl kont) ?_
  by_cases hc1 : (((v0 &&& (2147483647 : Int32)) % (6 : Int32))) = ((0 : Int32))
  · refine own_bk (S' := (s₁.setTop (mkF m 12 #[iv v0, iv ((v0 &&& (2147483647 : Int32)) % (6 : Int32)), .unset, .unset] []))) (fun t_ kont => XS.ifNo X0.here hx rfl (hb hby at_9) rfl ((if0 _ _).trans (teq (hc1)).2) kont) ?_
    obtain ⟨T2, X3, e4, st5⟩ := getS2 X0 hx hZ hown (host := "") (Or.inl (hw _ (List.mem_of_getElem? (i := 1) rfl))) Via.refl e0 G_MERGE.1 (g := (mkF m 12 #[iv v0, iv ((v0 &&& (2147483647 : Int32)) % (6 : Int32)), .unset, .unset] [])) rfl (hb hby at_12)
    refine own_bk (S' := (T2.setTop (mkF m 15 #[iv v0, iv ((v0 &&& (2147483647 : Int32)) % (6 : Int32)), .unset, .unset] [(.ref r_MERGE)]))) st5 ?_
    refine own_bk (S' := (T2.setTop (mkF m 16 #[iv v0, iv ((v0 &&& (2147483647 : Int32)) % (6 : Int32)), rv r_MERGE, .unset] []))) (fun t_ kont => XS.astoreN X3.here hx rfl (hb hby at_15) rfl rfl (l' := #[iv v0, iv ((v0 &&& (2147483647 : Int32)) % (6 : Int32)), rv r_MERGE, .unset]) rfl kont) ?_
    refine own_bk (S' := (T2.setTop (mkF m 17 #[iv v0, iv ((v0 &&& (2147483647 : Int32)) % (6 : Int32)), rv r_MERGE, .unset] [(.int (0 : Int32))]))) (fun t_ kont => XS.iconst X3.here hx rfl (hb hby at_16) kont) ?_
    refine own_bk (S' := (T2.setTop (mkF m 18 #[iv v0, iv ((v0 &&& (2147483647 : Int32)) % (6 : Int32)), rv r_MERGE, iv (0 : Int32)] []))) (fun t_ kont => XS.istoreN X3.here hx rfl (hb hby at_17) rfl (l' := #[iv v0, iv ((v0 &&& (2147483647 : Int32)) % (6 : Int32)), rv r_MERGE, iv (0 : Int32)]) rfl kont) ?_
    refine own_bk (S' := (T2.setTop (mkF m 83 #[iv v0, iv ((v0 &&& (2147483647 : Int32)) % (6 : Int32)), rv r_MERGE, iv (0 : Int32)] []))) (fun t_ kont => XS.goto X3.here hx rfl (pc0 := 18) (pc' := 83) rfl (hb hby at_18) (by decide) (by decide) kont) ?_
    refine own_bk (S' := (T2.setTop (mkF m 84 #[iv v0, iv ((v0 &&& (2147483647 : Int32)) % (6 : Int32)), rv r_MERGE, iv (0 : Int32)] [(.ref r_MERGE)]))) (fun t_ kont => XS.aloadN X3.here hx rfl (hb hby at_83) rfl rfl kont) ?_
    obtain ⟨cqq17, kqq17, q17a, q17b, q17c⟩ := isOf hZ e4 G_MERGE.2.1
    obtain ⟨_, _, ⟨T6, L7, k8, n9⟩, -, X10, ⟨Lc11, hQ12, l13, y14, z15⟩, st16⟩ := X3.virtualBack hx (y := (⟨"com/example/overweave/overweave/merge/NodeMarker", "removesMarkedElement", "()Z"⟩ : MethodName)) (z := (⟨"com/example/overweave/overweave/merge/NodeMarker", "removesMarkedElement", "()Z"⟩ : MethodName)) hown (mvT hZ (hw _ (List.mem_of_getElem? (i := 4) rfl))) (mvT hZ (hw _ (List.mem_of_getElem? (i := 5) rfl))) (notFace_of_selects (args := #[]) (mvT hZ (hw _ (List.mem_of_getElem? (i := 7) rfl)))) (mvT hZ (hw _ (List.mem_of_getElem? (i := 7) rfl))) (mvT hZ (hw _ (List.mem_of_getElem? (i := 6) rfl))) (by decide) (backOf (W := 0) (rm1 l Z a0 hw [] r_MERGE r_REMOVE r_REMOVE_ALL (0 : Int32) h0 n0 Z0 G_REMOVE.1 G_REMOVE_ALL.1 (by simp [(G_MERGE.ne G_REMOVE (by decide)), (G_MERGE.ne G_REMOVE_ALL (by decide))])) hZ (hw _ (List.mem_of_getElem? (i := 8) rfl)) (hw _ (List.mem_of_getElem? (i := 2) rfl)) (by decide) (by decide)) q17a q17c (g := (mkF m 84 #[iv v0, iv ((v0 &&& (2147483647 : Int32)) % (6 : Int32)), rv r_MERGE, iv (0 : Int32)] [(.ref r_MERGE)])) rfl (by rw [hml]; rfl) (Steps.refl _) (argsL := []) (rest := []) (lenOf (by decide +kernel : parseMethodDescriptor "()Z" = some ⟨[], some .boolean⟩) rfl) rfl (by show 2 * 0 + _ ≤ _; exact Nat.le_of_eq rfl) (hb hby at_84) (fun _ _ => ⟨rfl, e4, (by decide : 0 + 0 ≤ _), (by decide : 0 + 0 ≤ _)⟩)
    dsimp only [Pt.U, Pt.locs, Pt.cells, Pt.slots] at X10 l13 y14 z15 st16 hQ12
    subst l13 y14 z15
    obtain ⟨rfl, N18, e19⟩ := hQ12
    have N20 := Fr.app N0 N18
    refine own_tr (S' := (T6.setTop (mkF m 87 #[iv v0, iv ((v0 &&& (2147483647 : Int32)) % (6 : Int32)), rv r_MERGE, iv (0 : Int32)] [(.int (0 : Int32))]))) st16 ?_
    refine own_bk (S' := (T6.setTop (mkF m 88 #[iv v0, iv ((v0 &&& (2147483647 : Int32)) % (6 : Int32)), rv r_MERGE, iv (0 : Int32)] [(.int (0 : Int32)), (.int (0 : Int32))]))) (fun t_ kont => XS.iloadN X10.here hx rfl (hb hby at_87) rfl kont) ?_
    refine own_bk (S' := (T6.setTop (mkF m 91 #[iv v0, iv ((v0 &&& (2147483647 : Int32)) % (6 : Int32)), rv r_MERGE, iv (0 : Int32)] []))) (fun t_ kont => XS.icmpNo X10.here hx rfl (hb hby at_88) rfl (teq (by decide : ((0 : Int32)) = ((0 : Int32)))).2 kont) ?_
    refine own_bk (S' := (T6.setTop (mkF m 92 #[iv v0, iv ((v0 &&& (2147483647 : Int32)) % (6 : Int32)), rv r_MERGE, iv (0 : Int32)] [(.int (1 : Int32))]))) (fun t_ kont => XS.iconst X10.here hx rfl (hb hby at_91) kont) ?_
    refine own_bk (S' := (T6.setTop (mkF m 96 #[iv v0, iv ((v0 &&& (2147483647 : Int32)) % (6 : Int32)), rv r_MERGE, iv (0 : Int32)] [(.int (1 : Int32))]))) (fun t_ kont => XS.goto X10.here hx rfl (pc0 := 92) (pc' := 96) rfl (hb hby at_92) (by decide) (by decide) kont) ?_
    exact own_retN X10 hx hlk (t := .boolean) (w := (1 : Int32)) Bd.returns (by simp) (hb hby at_96) rfl ⟨rfl, N20⟩ (by decide) (by decide)
  · refine own_bk (S' := (s₁.setTop (mkF m 21 #[iv v0, iv ((v0 &&& (2147483647 : Int32)) % (6 : Int32)), .unset, .unset] []))) (fun t_ kont => XS.ifYes X0.here hx rfl (pc0 := 9) (pc' := 21) rfl (hb hby at_9) rfl ((if0 _ _).trans (feq (hc1)).2) (by decide) (by decide) kont) ?_
    refine own_bk (S' := (s₁.setTop (mkF m 22 #[iv v0, iv ((v0 &&& (2147483647 : Int32)) % (6 : Int32)), .unset, .unset] [(.int ((v0 &&& (2147483647 : Int32)) % (6 : Int32)))]))) (fun t_ kont => XS.iloadN X0.here hx rfl (hb hby at_21) rfl kont) ?_
    refine own_bk (S' := (s₁.setTop (mkF m 23 #[iv v0, iv ((v0 &&& (2147483647 : Int32)) % (6 : Int32)), .unset, .unset] [(.int (1 : Int32)), (.int ((v0 &&& (2147483647 : Int32)) % (6 : Int32)))]))) (fun t_ kont => XS.iconst X0.here hx rfl (hb hby at_22) kont) ?_
    by_cases hc21 : (((v0 &&& (2147483647 : Int32)) % (6 : Int32))) = ((1 : Int32))
    · refine own_bk (S' := (s₁.setTop (mkF m 26 #[iv v0, iv ((v0 &&& (2147483647 : Int32)) % (6 : Int32)), .unset, .unset] []))) (fun t_ kont => XS.icmpNo X0.here hx rfl (hb hby at_23) rfl (teq (hc21)).2 kont) ?_
      obtain ⟨T22, X23, e24, st25⟩ := getS2 X0 hx hZ hown (host := "") (Or.inl (hw _ (List.mem_of_getElem? (i := 15) rfl))) Via.refl e0 G_MERGE_ONLY_ATTRIBUTES.1 (g := (mkF m 26 #[iv v0, iv ((v0 &&& (2147483647 : Int32)) % (6 : Int32)), .unset, .unset] [])) rfl (hb hby at_26)
      refine own_bk (S' := (T22.setTop (mkF m 29 #[iv v0, iv ((v0 &&& (2147483647 : Int32)) % (6 : Int32)), .unset, .unset] [(.ref r_MERGE_ONLY_ATTRIBUTES)]))) st25 ?_
      refine own_bk (S' := (T22.setTop (mkF m 30 #[iv v0, iv ((v0 &&& (2147483647 : Int32)) % (6 : Int32)), rv r_MERGE_ONLY_ATTRIBUTES, .unset] []))) (fun t_ kont => XS.astoreN X23.here hx rfl (hb hby at_29) rfl rfl (l' := #[iv v0, iv ((v0 &&& (2147483647 : Int32)) % (6 : Int32)), rv r_MERGE_ONLY_ATTRIBUTES, .unset]) rfl kont) ?_
      refine own_bk (S' := (T22.setTop (mkF m 31 #[iv v0, iv ((v0 &&& (2147483647 : Int32)) % (6 : Int32)), rv r_MERGE_ONLY_ATTRIBUTES, .unset] [(.int (0 : Int32))]))) (fun t_ kont => XS.iconst X23.here hx rfl (hb hby at_30) kont) ?_
      refine own_bk (S' := (T22.setTop (mkF m 32 #[iv v0, iv ((v0 &&& (2147483647 : Int32)) % (6 : Int32)), rv r_MERGE_ONLY_ATTRIBUTES, iv (0 : Int32)] []))) (fun t_ kont => XS.istoreN X23.here hx rfl (hb hby at_31) rfl (l' := #[iv v0, iv ((v0 &&& (2147483647 : Int32)) % (6 : Int32)), rv r_MERGE_ONLY_ATTRIBUTES, iv (0 : Int32)]) rfl kont) ?_
      refine own_bk (S' := (T22.setTop (mkF m 83 #[iv v0, iv ((v0 &&& (2147483647 : Int32)) % (6 : Int32)), rv r_MERGE_ONLY_ATTRIBUTES, iv (0 : Int32)] []))) (fun t_ kont => XS.goto X23.here hx rfl (pc0 := 32) (pc' := 83) rfl (hb hby at_32) (by decide) (by decide) kont) ?_
      refine own_bk (S' := (T22.setTop (mkF m 84 #[iv v0, iv ((v0 &&& (2147483647 : Int32)) % (6 : Int32)), rv r_MERGE_ONLY_ATTRIBUTES, iv (0 : Int32)] [(.ref r_MERGE_ONLY_ATTRIBUTES)]))) (fun t_ kont => XS.aloadN X23.here hx rfl (hb hby at_83) rfl rfl kont) ?_
      obtain ⟨cqq37, kqq37, q37a, q37b, q37c⟩ := isOf hZ e24 G_MERGE_ONLY_ATTRIBUTES.2.1
      obtain ⟨_, _, ⟨T26, L27, k28, n29⟩, -, X30, ⟨Lc31, hQ32, l33, y34, z35⟩, st36⟩ := X23.virtualBack hx (y := (⟨"com/example/overweave/overweave/merge/NodeMarker", "removesMarkedElement", "()Z"⟩ : MethodName)) (z := (⟨"com/example/overweave/overweave/merge/NodeMarker", "removesMarkedElement", "()Z"⟩ : MethodName)) hown (mvT hZ (hw _ (List.mem_of_getElem? (i := 4) rfl))) (mvT hZ (hw _ (List.mem_of_getElem? (i := 5) rfl))) (notFace_of_selects (args := #[]) (mvT hZ (hw _ (List.mem_of_getElem? (i := 7) rfl)))) (mvT hZ (hw _ (List.mem_of_getElem? (i := 7) rfl))) (mvT hZ (hw _ (List.mem_of_getElem? (i := 6) rfl))) (by decide) (backOf (W := 0) (rm1 l Z a0 hw [] r_MERGE_ONLY_ATTRIBUTES r_REMOVE r_REMOVE_ALL (0 : Int32) h0 n0 Z0 G_REMOVE.1 G_REMOVE_ALL.1 (by simp [(G_MERGE_ONLY_ATTRIBUTES.ne G_REMOVE (by decide)), (G_MERGE_ONLY_ATTRIBUTES.ne G_REMOVE_ALL (by decide))])) hZ (hw _ (List.mem_of_getElem? (i := 8) rfl)) (hw _ (List.mem_of_getElem? (i := 2) rfl)) (by decide) (by decide)) q37a q37c (g := (mkF m 84 #[iv v0, iv ((v0 &&& (2147483647 : Int32)) % (6 : Int32)), rv r_MERGE_ONLY_ATTRIBUTES, iv (0 : Int32)] [(.ref r_MERGE_ONLY_ATTRIBUTES)])) rfl (by rw [hml]; rfl) (Steps.refl _) (argsL := []) (rest := []) (lenOf (by decide +kernel : parseMethodDescriptor "()Z" = some ⟨[], some .boolean⟩) rfl) rfl (by show 2 * 0 + _ ≤ _; exact Nat.le_of_eq rfl) (hb hby at_84) (fun _ _ => ⟨rfl, e24, (by decide : 0 + 0 ≤ _), (by decide : 0 + 0 ≤ _)⟩)
      dsimp only [Pt.U, Pt.locs, Pt.cells, Pt.slots] at X30 l33 y34 z35 st36 hQ32
      subst l33 y34 z35
      obtain ⟨rfl, N38, e39⟩ := hQ32
      have N40 := Fr.app N0 N38
      refine own_tr (S' := (T26.setTop (mkF m 87 #[iv v0, iv ((v0 &&& (2147483647 : Int32)) % (6 : Int32)), rv r_MERGE_ONLY_ATTRIBUTES, iv (0 : Int32)] [(.int (0 : Int32))]))) st36 ?_
      refine own_bk (S' := (T26.setTop (mkF m 88 #[iv v0, iv ((v0 &&& (2147483647 : Int32)) % (6 : Int32)), rv r_MERGE_ONLY_ATTRIBUTES, iv (0 : Int32)] [(.int (0 : Int32)), (.int (0 : Int32))]))) (fun t_ kont => XS.iloadN X30.here hx rfl (hb hby at_87) rfl kont) ?_
      refine own_bk (S' := (T26.setTop (mkF m 91 #[iv v0, iv ((v0 &&& (2147483647 : Int32)) % (6 : Int32)), rv r_MERGE_ONLY_ATTRIBUTES, iv (0 : Int32)] []))) (fun t_ kont => XS.icmpNo X30.here hx rfl (hb hby at_88) rfl (teq (by decide : ((0 : Int32)) = ((0 : Int32)))).2 kont) ?_
      refine own_bk (S' := (T26.setTop (mkF m 92 #[iv v0, iv ((v0 &&& (2147483647 : Int32)) % (6 : Int32)), rv r_MERGE_ONLY_ATTRIBUTES, iv (0 : Int32)] [(.int (1 : Int32))]))) (fun t_ kont => XS.iconst X30.here hx rfl (hb hby at_91) kont) ?_
      refine own_bk (S' := (T26.setTop (mkF m 96 #[iv v0, iv ((v0 &&& (2147483647 : Int32)) % (6 : Int32)), rv r_MERGE_ONLY_ATTRIBUTES, iv (0 : Int32)] [(.int (1 : Int32))]))) (fun t_ kont => XS.goto X30.here hx rfl (pc0 := 92) (pc' := 96) rfl (hb hby at_92) (by decide) (by decide) kont) ?_
      exact own_retN X30 hx hlk (t := .boolean) (w := (1 : Int32)) Bd.returns (by simp) (hb hby at_96) rfl ⟨rfl, N40⟩ (by decide) (by decide)
    · refine own_bk (S' := (s₁.setTop (mkF m 35 #[iv v0, iv ((v0 &&& (2147483647 : Int32)) % (6 : Int32)), .unset, .unset] []))) (fun t_ kont => XS.icmpYes X0.here hx rfl (pc0 := 23) (pc' := 35) rfl (hb hby at_23) rfl (feq (hc21)).2 (by decide) (by decide) kont) ?_
      refine own_bk (S' := (s₁.setTop (mkF m 36 #[iv v0, iv ((v0 &&& (2147483647 : Int32)) % (6 : Int32)), .unset, .unset] [(.int ((v0 &&& (2147483647 : Int32)) % (6 : Int32)))]))) (fun t_ kont => XS.iloadN X0.here hx rfl (hb hby at_35) rfl kont) ?_
      refine own_bk (S' := (s₁.setTop (mkF m 37 #[iv v0, iv ((v0 &&& (2147483647 : Int32)) % (6 : Int32)), .unset, .unset] [(.int (2 : Int32)), (.int ((v0 &&& (2147483647 : Int32)) % (6 : Int32)))]))) (fun t_ kont => XS.iconst X0.here hx rfl (hb hby at_36) kont) ?_
      by_cases hc41 : (((v0 &&& (2147483647 : Int32)) % (6 : Int32))) = ((2 : Int32))
      · refine own_bk (S' := (s₁.setTop (mkF m 40 #[iv v0, iv ((v0 &&& (2147483647 : Int32)) % (6 : Int32)), .unset, .unset] []))) (fun t_ kont => XS.icmpNo X0.here hx rfl (hb hby at_37) rfl (teq (hc41)).2 kont) ?_
        obtain ⟨T42, X43, e44, st45⟩ := getS2 X0 hx hZ hown (host := "") (Or.inl (hw _ (List.mem_of_getElem? (i := 14) rfl))) Via.refl e0 G_REMOVE.1 (g := (mkF m 40 #[iv v0, iv ((v0 &&& (2147483647 : Int32)) % (6 : Int32)), .unset, .unset] [])) rfl (hb hby at_40)
        refine own_bk (S' := (T42.setTop (mkF m 43 #[iv v0, iv ((v0 &&& (2147483647 : Int32)) % (6 : Int32)), .unset, .unset] [(.ref r_REMOVE)]))) st45 ?_
        refine own_bk (S' := (T42.setTop (mkF m 44 #[iv v0, iv ((v0 &&& (2147483647 : Int32)) % (6 : Int32)), rv r_REMOVE, .unset] []))) (fun t_ kont => XS.astoreN X43.here hx rfl (hb hby at_43) rfl rfl (l' := #[iv v0, iv ((v0 &&& (2147483647 : Int32)) % (6 : Int32)), rv r_REMOVE, .unset]) rfl kont) ?_
        refine own_bk (S' := (T42.setTop (mkF m 45 #[iv v0, iv ((v0 &&& (2147483647 : Int32)) % (6 : Int32)), rv r_REMOVE, .unset] [(.int (1 : Int32))]))) (fun t_ kont => XS.iconst X43.here hx rfl (hb hby at_44) kont) ?_
        refine own_bk (S' := (T42.setTop (mkF m 46 #[iv v0, iv ((v0 &&& (2147483647 : Int32)) % (6 : Int32)), rv r_REMOVE, iv (1 : Int32)] []))) (fun t_ kont => XS.istoreN X43.here hx rfl (hb hby at_45) rfl (l' := #[iv v0, iv ((v0 &&& (2147483647 : Int32)) % (6 : Int32)), rv r_REMOVE, iv (1 : Int32)]) rfl kont) ?_
        refine own_bk (S' := (T42.setTop (mkF m 83 #[iv v0, iv ((v0 &&& (2147483647 : Int32)) % (6 : Int32)), rv r_REMOVE, iv (1 : Int32)] []))) (fun t_ kont => XS.goto X43.here hx rfl (pc0 := 46) (pc' := 83) rfl (hb hby at_46) (by decide) (by decide) kont) ?_
        refine own_bk (S' := (T42.setTop (mkF m 84 #[iv v0, iv ((v0 &&& (2147483647 : Int32)) % (6 : Int32)), rv r_REMOVE, iv (1 : Int32)] [(.ref r_REMOVE)]))) (fun t_ kont => XS.aloadN X43.here hx rfl (hb hby at_83) rfl rfl kont) ?_
        obtain ⟨cqq57, kqq57, q57a, q57b, q57c⟩ := isOf hZ e44 G_REMOVE.2.1
        obtain ⟨_, _, ⟨T46, L47, k48, n49⟩, -, X50, ⟨Lc51, hQ52, l53, y54, z55⟩, st56⟩ := X43.virtualBack hx (y := (⟨"com/example/overweave/overweave/merge/NodeMarker", "removesMarkedElement", "()Z"⟩ : MethodName)) (z := (⟨"com/example/overweave/overweave/merge/NodeMarker", "removesMarkedElement", "()Z"⟩ : MethodName)) hown (mvT hZ (hw _ (List.mem_of_getElem? (i := 4) rfl))) (mvT hZ (hw _ (List.mem_of_getElem? (i := 5) rfl))) (notFace_of_selects (args := #[]) (mvT hZ (hw _ (List.mem_of_getElem? (i := 7) rfl)))) (mvT hZ (hw _ (List.mem_of_getElem? (i := 7) rfl))) (mvT hZ (hw _ (List.mem_of_getElem? (i := 6) rfl))) (by decide) (backOf (W := 0) (rm1 l Z a0 hw [] r_REMOVE r_REMOVE r_REMOVE_ALL (1 : Int32) h0 n0 Z0 G_REMOVE.1 G_REMOVE_ALL.1 (by simp [(G_REMOVE.ne G_REMOVE_ALL (by decide))])) hZ (hw _ (List.mem_of_getElem? (i := 8) rfl)) (hw _ (List.mem_of_getElem? (i := 2) rfl)) (by decide) (by decide)) q57a q57c (g := (mkF m 84 #[iv v0, iv ((v0 &&& (2147483647 : Int32)) % (6 : Int32)), rv r_REMOVE, iv (1 : Int32)] [(.ref r_REMOVE)])) rfl (by rw [hml]; rfl) (Steps.refl _) (argsL := []) (rest := []) (lenOf (by decide +kernel : parseMethodDescriptor "()Z" = some ⟨[], some .boolean⟩) rfl) rfl (by show 2 * 0 + _ ≤ _; exact Nat.le_of_eq rfl) (hb hby at_84) (fun _ _ => ⟨rfl, e44, (by decide : 0 + 0 ≤ _), (by decide : 0 + 0 ≤ _)⟩)
        dsimp only [Pt.U, Pt.locs, Pt.cells, Pt.slots] at X50 l53 y54 z55 st56 hQ52
        subst l53 y54 z55
        obtain ⟨rfl, N58, e59⟩ := hQ52
        have N60 := Fr.app N0 N58
        refine own_tr (S' := (T46.setTop (mkF m 87 #[iv v0, iv ((v0 &&& (2147483647 : Int32)) % (6 : Int32)), rv r_REMOVE, iv (1 : Int32)] [(.int (1 : Int32))]))) st56 ?_
        refine own_bk (S' := (T46.setTop (mkF m 88 #[iv v0, iv ((v0 &&& (2147483647 : Int32)) % (6 : Int32)), rv r_REMOVE, iv (1 : Int32)] [(.int (1 : Int32)), (.int (1 : Int32))]))) (fun t_ kont => XS.iloadN X50.here hx rfl (hb hby at_87) rfl kont) ?_
        refine own_bk (S' := (T46.setTop (mkF m 91 #[iv v0, iv ((v0 &&& (2147483647 : Int32)) % (6 : Int32)), rv r_REMOVE, iv (1 : Int32)] []))) (fun t_ kont => XS.icmpNo X50.here hx rfl (hb hby at_88) rfl (teq (by decide : ((1 : Int32)) = ((1 : Int32)))).2 kont) ?_
        refine own_bk (S' := (T46.setTop (mkF m 92 #[iv v0, iv ((v0 &&& (2147483647 : Int32)) % (6 : Int32)), rv r_REMOVE, iv (1 : Int32)] [(.int (1 : Int32))]))) (fun t_ kont => XS.iconst X50.here hx rfl (hb hby at_91) kont) ?_
        refine own_bk (S' := (T46.setTop (mkF m 96 #[iv v0, iv ((v0 &&& (2147483647 : Int32)) % (6 : Int32)), rv r_REMOVE, iv (1 : Int32)] [(.int (1 : Int32))]))) (fun t_ kont => XS.goto X50.here hx rfl (pc0 := 92) (pc' := 96) rfl (hb hby at_92) (by decide) (by decide) kont) ?_
        exact own_retN X50 hx hlk (t := .boolean) (w := (1 : Int32)) Bd.returns (by simp) (hb hby at_96) rfl ⟨rfl, N60⟩ (by decide) (by decide)
      · refine own_bk (S' := (s₁.setTop (mkF m 49 #[iv v0, iv ((v0 &&& (2147483647 : Int32)) % (6 : Int32)), .unset, .unset] []))) (fun t_ kont => XS.icmpYes X0.here hx rfl (pc0 := 37) (pc' := 49) rfl (hb hby at_37) rfl (feq (hc41)).2 (by decide) (by decide) kont) ?_
        refine own_bk (S' := (s₁.setTop (mkF m 50 #[iv v0, iv ((v0 &&& (2147483647 : Int32)) % (6 : Int32)), .unset, .unset] [(.int ((v0 &&& (2147483647 : Int32)) % (6 : Int32)))]))) (fun t_ kont => XS.iloadN X0.here hx rfl (hb hby at_49) rfl kont) ?_
        refine own_bk (S' := (s₁.setTop (mkF m 51 #[iv v0, iv ((v0 &&& (2147483647 : Int32)) % (6 : Int32)), .unset, .unset] [(.int (3 : Int32)), (.int ((v0 &&& (2147483647 : Int32)) % (6 : Int32)))]))) (fun t_ kont => XS.iconst X0.here hx rfl (hb hby at_50) kont) ?_
        by_cases hc61 : (((v0 &&& (2147483647 : Int32)) % (6 : Int32))) = ((3 : Int32))
        · refine own_bk (S' := (s₁.setTop (mkF m 54 #[iv v0, iv ((v0 &&& (2147483647 : Int32)) % (6 : Int32)), .unset, .unset] []))) (fun t_ kont => XS.icmpNo X0.here hx rfl (hb hby at_51) rfl (teq (hc61)).2 kont) ?_
          obtain ⟨T62, X63, e64, st65⟩ := getS2 X0 hx hZ hown (host := "") (Or.inl (hw _ (List.mem_of_getElem? (i := 13) rfl))) Via.refl e0 G_REMOVE_ALL.1 (g := (mkF m 54 #[iv v0, iv ((v0 &&& (2147483647 : Int32)) % (6 : Int32)), .unset, .unset] [])) rfl (hb hby at_54)
          refine own_bk (S' := (T62.setTop (mkF m 57 #[iv v0, iv ((v0 &&& (2147483647 : Int32)) % (6 : Int32)), .unset, .unset] [(.ref r_REMOVE_ALL)]))) st65 ?_
          refine own_bk (S' := (T62.setTop (mkF m 58 #[iv v0, iv ((v0 &&& (2147483647 : Int32)) % (6 : Int32)), rv r_REMOVE_ALL, .unset] []))) (fun t_ kont => XS.astoreN X63.here hx rfl (hb hby at_57) rfl rfl (l' := #[iv v0, iv ((v0 &&& (2147483647 : Int32)) % (6 : Int32)), rv r_REMOVE_ALL, .unset]) rfl kont) ?_
          refine own_bk (S' := (T62.setTop (mkF m 59 #[iv v0, iv ((v0 &&& (2147483647 : Int32)) % (6 : Int32)), rv r_REMOVE_ALL, .unset] [(.int (1 : Int32))]))) (fun t_ kont => XS.iconst X63.here hx rfl (hb hby at_58) kont) ?_
          refine own_bk (S' := (T62.setTop (mkF m 60 #[iv v0, iv ((v0 &&& (2147483647 : Int32)) % (6 : Int32)), rv r_REMOVE_ALL, iv (1 : Int32)] []))) (fun t_ kont => XS.istoreN X63.here hx rfl (hb hby at_59) rfl (l' := #[iv v0, iv ((v0 &&& (2147483647 : Int32)) % (6 : Int32)), rv r_REMOVE_ALL, iv (1 : Int32)]) rfl kont) ?_
          refine own_bk (S' := (T62.setTop (mkF m 83 #[iv v0, iv ((v0 &&& (2147483647 : Int32)) % (6 : Int32)), rv r_REMOVE_ALL, iv (1 : Int32)] []))) (fun t_ kont => XS.goto X63.here hx rfl (pc0 := 60) (pc' := 83) rfl (hb hby at_60) (by decide) (by decide) kont) ?_
          refine own_bk (S' := (T62.setTop (mkF m 84 #[iv v0, iv ((v0 &&& (2147483647 : Int32)) % (6 : Int32)), rv r_REMOVE_ALL, iv (1 : Int32)] [(.ref r_REMOVE_ALL)]))) (fun t_ kont => XS.aloadN X63.here hx rfl (hb hby at_83) rfl rfl kont) ?_
          obtain ⟨cqq77, kqq77, q77a, q77b, q77c⟩ := isOf hZ e64 G_REMOVE_ALL.2.1
          obtain ⟨_, _, ⟨T66, L67, k68, n69⟩, -, X70, ⟨Lc71, hQ72, l73, y74, z75⟩, st76⟩ := X63.virtualBack hx (y := (⟨"com/example/overweave/overweave/merge/NodeMarker", "removesMarkedElement", "()Z"⟩ : MethodName)) (z := (⟨"com/example/overweave/overweave/merge/NodeMarker", "removesMarkedElement", "()Z"⟩ : MethodName)) hown (mvT hZ (hw _ (List.mem_of_getElem? (i := 4) rfl))) (mvT hZ (hw _ (List.mem_of_getElem? (i := 5) rfl))) (notFace_of_selects (args := #[]) (mvT hZ (hw _ (List.mem_of_getElem? (i := 7) rfl)))) (mvT hZ (hw _ (List.mem_of_getElem? (i := 7) rfl))) (mvT hZ (hw _ (List.mem_of_getElem? (i := 6) rfl))) (by decide) (backOf (W := 0) (rm1 l Z a0 hw [] r_REMOVE_ALL r_REMOVE r_REMOVE_ALL (1 : Int32) h0 n0 Z0 G_REMOVE.1 G_REMOVE_ALL.1 (by simp [(G_REMOVE_ALL.ne G_REMOVE (by decide))])) hZ (hw _ (List.mem_of_getElem? (i := 8) rfl)) (hw _ (List.mem_of_getElem? (i := 2) rfl)) (by decide) (by decide)) q77a q77c (g := (mkF m 84 #[iv v0, iv ((v0 &&& (2147483647 : Int32)) % (6 : Int32)), rv r_REMOVE_ALL, iv (1 : Int32)] [(.ref r_REMOVE_ALL)])) rfl (by rw [hml]; rfl) (Steps.refl _) (argsL := []) (rest := []) (lenOf (by decide +kernel : parseMethodDescriptor "()Z" = some ⟨[], some .boolean⟩) rfl) rfl (by show 2 * 0 + _ ≤ _; exact Nat.le_of_eq rfl) (hb hby at_84) (fun _ _ => ⟨rfl, e64, (by decide : 0 + 0 ≤ _), (by decide : 0 + 0 ≤ _)⟩)
          dsimp only [Pt.U, Pt.locs, Pt.cells, Pt.slots] at X70 l73 y74 z75 st76 hQ72
          subst l73 y74 z75
          obtain ⟨rfl, N78, e79⟩ := hQ72
          have N80 := Fr.app N0 N78
          refine own_tr (S' := (T66.setTop (mkF m 87 #[iv v0, iv ((v0 &&& (2147483647 : Int32)) % (6 : Int32)), rv r_REMOVE_ALL, iv (1 : Int32)] [(.int (1 : Int32))]))) st76 ?_
          refine own_bk (S' := (T66.setTop (mkF m 88 #[iv v0, iv ((v0 &&& (2147483647 : Int32)) % (6 : Int32)), rv r_REMOVE_ALL, iv (1 : Int32)] [(.int (1 : Int32)), (.int (1 : Int32))]))) (fun t_ kont => XS.iloadN X70.here hx rfl (hb hby at_87) rfl kont) ?_
          refine own_bk (S' := (T66.setTop (mkF m 91 #[iv v0, iv ((v0 &&& (2147483647 : Int32)) % (6 : Int32)), rv r_REMOVE_ALL, iv (1 : Int32)] []))) (fun t_ kont => XS.icmpNo X70.here hx rfl (hb hby at_88) rfl (teq (by decide : ((1 : Int32)) = ((1 : Int32)))).2 kont) ?_
          refine own_bk (S' := (T66.setTop (mkF m 92 #[iv v0, iv ((v0 &&& (2147483647 : Int32)) % (6 : Int32)), rv r_REMOVE_ALL, iv (1 : Int32)] [(.int (1 : Int32))]))) (fun t_ kont => XS.iconst X70.here hx rfl (hb hby at_91) kont) ?_
          refine own_bk (S' := (T66.setTop (mkF m 96 #[iv v0, iv ((v0 &&& (2147483647 : Int32)) % (6 : Int32)), rv r_REMOVE_ALL, iv (1 : Int32)] [(.int (1 : Int32))]))) (fun t_ kont => XS.goto X70.here hx rfl (pc0 := 92) (pc' := 96) rfl (hb hby at_92) (by decide) (by decide) kont) ?_
          exact own_retN X70 hx hlk (t := .boolean) (w := (1 : Int32)) Bd.returns (by simp) (hb hby at_96) rfl ⟨rfl, N80⟩ (by decide) (by decide)
        · refine own_bk (S' := (s₁.setTop (mkF m 63 #[iv v0, iv ((v0 &&& (2147483647 : Int32)) % (6 : Int32)), .unset, .unset] []))) (fun t_ kont => XS.icmpYes X0.here hx rfl (pc0 := 51) (pc' := 63) rfl (hb hby at_51) rfl (feq (hc61)).2 (by decide) (by decide) kont) ?_
          refine own_bk (S' := (s₁.setTop (mkF m 64 #[iv v0, iv ((v0 &&& (2147483647 : Int32)) % (6 : Int32)), .unset, .unset] [(.int ((v0 &&& (2147483647 : Int32)) % (6 : Int32)))]))) (fun t_ kont => XS.iloadN X0.here hx rfl (hb hby at_63) rfl kont) ?_
          refine own_bk (S' := (s₁.setTop (mkF m 65 #[iv v0, iv ((v0 &&& (2147483647 : Int32)) % (6 : Int32)), .unset, .unset] [(.int (4 : Int32)), (.int ((v0 &&& (2147483647 : Int32)) % (6 : Int32)))]))) (fun t_ kont => XS.iconst X0.here hx rfl (hb hby at_64) kont) ?_
          by_cases hc81 : (((v0 &&& (2147483647 : Int32)) % (6 : Int32))) = ((4 : Int32))
          · refine own_bk (S' := (s₁.setTop (mkF m 68 #[iv v0, iv ((v0 &&& (2147483647 : Int32)) % (6 : Int32)), .unset, .unset] []))) (fun t_ kont => XS.icmpNo X0.here hx rfl (hb hby at_65) rfl (teq (hc81)).2 kont) ?_
            obtain ⟨T82, X83, e84, st85⟩ := getS2 X0 hx hZ hown (host := "") (Or.inl (hw _ (List.mem_of_getElem? (i := 19) rfl))) Via.refl e0 G_REPLACE.1 (g := (mkF m 68 #[iv v0, iv ((v0 &&& (2147483647 : Int32)) % (6 : Int32)), .unset, .unset] [])) rfl (hb hby at_68)
            refine own_bk (S' := (T82.setTop (mkF m 71 #[iv v0, iv ((v0 &&& (2147483647 : Int32)) % (6 : Int32)), .unset, .unset] [(.ref r_REPLACE)]))) st85 ?_
            refine own_bk (S' := (T82.setTop (mkF m 72 #[iv v0, iv ((v0 &&& (2147483647 : Int32)) % (6 : Int32)), rv r_REPLACE, .unset] []))) (fun t_ kont => XS.astoreN X83.here hx rfl (hb hby at_71) rfl rfl (l' := #[iv v0, iv ((v0 &&& (2147483647 : Int32)) % (6 : Int32)), rv r_REPLACE, .unset]) rfl kont) ?_
            refine own_bk (S' := (T82.setTop (mkF m 73 #[iv v0, iv ((v0 &&& (2147483647 : Int32)) % (6 : Int32)), rv r_REPLACE, .unset] [(.int (0 : Int32))]))) (fun t_ kont => XS.iconst X83.here hx rfl (hb hby at_72) kont) ?_
            refine own_bk (S' := (T82.setTop (mkF m 74 #[iv v0, iv ((v0 &&& (2147483647 : Int32)) % (6 : Int32)), rv r_REPLACE, iv (0 : Int32)] []))) (fun t_ kont => XS.istoreN X83.here hx rfl (hb hby at_73) rfl (l' := #[iv v0, iv ((v0 &&& (2147483647 : Int32)) % (6 : Int32)), rv r_REPLACE, iv (0 : Int32)]) rfl kont) ?_
            refine own_bk (S' := (T82.setTop (mkF m 83 #[iv v0, iv ((v0 &&& (2147483647 : Int32)) % (6 : Int32)), rv r_REPLACE, iv (0 : Int32)] []))) (fun t_ kont => XS.goto X83.here hx rfl (pc0 := 74) (pc' := 83) rfl (hb hby at_74) (by decide) (by decide) kont) ?_
            refine own_bk (S' := (T82.setTop (mkF m 84 #[iv v0, iv ((v0 &&& (2147483647 : Int32)) % (6 : Int32)), rv r_REPLACE, iv (0 : Int32)] [(.ref r_REPLACE)]))) (fun t_ kont => XS.aloadN X83.here hx rfl (hb hby at_83) rfl rfl kont) ?_
            obtain ⟨cqq97, kqq97, q97a, q97b, q97c⟩ := isOf hZ e84 G_REPLACE.2.1
            obtain ⟨_, _, ⟨T86, L87, k88, n89⟩, -, X90, ⟨Lc91, hQ92, l93, y94, z95⟩, st96⟩ := X83.virtualBack hx (y := (⟨"com/example/overweave/overweave/merge/NodeMarker", "removesMarkedElement", "()Z"⟩ : MethodName)) (z := (⟨"com/example/overweave/overweave/merge/NodeMarker", "removesMarkedElement", "()Z"⟩ : MethodName)) hown (mvT hZ (hw _ (List.mem_of_getElem? (i := 4) rfl))) (mvT hZ (hw _ (List.mem_of_getElem? (i := 5) rfl))) (notFace_of_selects (args := #[]) (mvT hZ (hw _ (List.mem_of_getElem? (i := 7) rfl)))) (mvT hZ (hw _ (List.mem_of_getElem? (i := 7) rfl))) (mvT hZ (hw _ (List.mem_of_getElem? (i := 6) rfl))) (by decide) (backOf (W := 0) (rm1 l Z a0 hw [] r_REPLACE r_REMOVE r_REMOVE_ALL (0 : Int32) h0 n0 Z0 G_REMOVE.1 G_REMOVE_ALL.1 (by simp [(G_REPLACE.ne G_REMOVE (by decide)), (G_REPLACE.ne G_REMOVE_ALL (by decide))])) hZ (hw _ (List.mem_of_getElem? (i := 8) rfl)) (hw _ (List.mem_of_getElem? (i := 2) rfl)) (by decide) (by decide)) q97a q97c (g := (mkF m 84 #[iv v0, iv ((v0 &&& (2147483647 : Int32)) % (6 : Int32)), rv r_REPLACE, iv (0 : Int32)] [(.ref r_REPLACE)])) rfl (by rw [hml]; rfl) (Steps.refl _) (argsL := []) (rest := []) (lenOf (by decide +kernel : parseMethodDescriptor "()Z" = some ⟨[], some .boolean⟩) rfl) rfl (by show 2 * 0 + _ ≤ _; exact Nat.le_of_eq rfl) (hb hby at_84) (fun _ _ => ⟨rfl, e84, (by decide : 0 + 0 ≤ _), (by decide : 0 + 0 ≤ _)⟩)
            dsimp only [Pt.U, Pt.locs, Pt.cells, Pt.slots] at X90 l93 y94 z95 st96 hQ92
            subst l93 y94 z95
            obtain ⟨rfl, N98, e99⟩ := hQ92
            have N100 := Fr.app N0 N98
            refine own_tr (S' := (T86.setTop (mkF m 87 #[iv v0, iv ((v0 &&& (2147483647 : Int32)) % (6 : Int32)), rv r_REPLACE, iv (0 : Int32)] [(.int (0 : Int32))]))) st96 ?_
            refine own_bk (S' := (T86.setTop (mkF m 88 #[iv v0, iv ((v0 &&& (2147483647 : Int32)) % (6 : Int32)), rv r_REPLACE, iv (0 : Int32)] [(.int (0 : Int32)), (.int (0 : Int32))]))) (fun t_ kont => XS.iloadN X90.here hx rfl (hb hby at_87) rfl kont) ?_
            refine own_bk (S' := (T86.setTop (mkF m 91 #[iv v0, iv ((v0 &&& (2147483647 : Int32)) % (6 : Int32)), rv r_REPLACE, iv (0 : Int32)] []))) (fun t_ kont => XS.icmpNo X90.here hx rfl (hb hby at_88) rfl (teq (by decide : ((0 : Int32)) = ((0 : Int32)))).2 kont) ?_
            refine own_bk (S' := (T86.setTop (mkF m 92 #[iv v0, iv ((v0 &&& (2147483647 : Int32)) % (6 : Int32)), rv r_REPLACE, iv (0 : Int32)] [(.int (1 : Int32))]))) (fun t_ kont => XS.iconst X90.here hx rfl (hb hby at_91) kont) ?_
            refine own_bk (S' := (T86.setTop (mkF m 96 #[iv v0, iv ((v0 &&& (2147483647 : Int32)) % (6 : Int32)), rv r_REPLACE, iv (0 : Int32)] [(.int (1 : Int32))]))) (fun t_ kont => XS.goto X90.here hx rfl (pc0 := 92) (pc' := 96) rfl (hb hby at_92) (by decide) (by decide) kont) ?_
            exact own_retN X90 hx hlk (t := .boolean) (w := (1 : Int32)) Bd.returns (by simp) (hb hby at_96) rfl ⟨rfl, N100⟩ (by decide) (by decide)
          · refine own_bk (S' := (s₁.setTop (mkF m 77 #[iv v0, iv ((v0 &&& (2147483647 : Int32)) % (6 : Int32)), .unset, .unset] []))) (fun t_ kont => XS.icmpYes X0.here hx rfl (pc0 := 65) (pc' := 77) rfl (hb hby at_65) rfl (feq (hc81)).2 (by decide) (by decide) kont) ?_
            obtain ⟨T101, X102, e103, st104⟩ := getS2 X0 hx hZ hown (host := "") (Or.inl (hw _ (List.mem_of_getElem? (i := 17) rfl))) Via.refl e0 G_STRICT.1 (g := (mkF m 77 #[iv v0, iv ((v0 &&& (2147483647 : Int32)) % (6 : Int32)), .unset, .unset] [])) rfl (hb hby at_77)
            refine own_bk (S' := (T101.setTop (mkF m 80 #[iv v0, iv ((v0 &&& (2147483647 : Int32)) % (6 : Int32)), .unset, .unset] [(.ref r_STRICT)]))) st104 ?_
            refine own_bk (S' := (T101.setTop (mkF m 81 #[iv v0, iv ((v0 &&& (2147483647 : Int32)) % (6 : Int32)), rv r_STRICT, .unset] []))) (fun t_ kont => XS.astoreN X102.here hx rfl (hb hby at_80) rfl rfl (l' := #[iv v0, iv ((v0 &&& (2147483647 : Int32)) % (6 : Int32)), rv r_STRICT, .unset]) rfl kont) ?_
            refine own_bk (S' := (T101.setTop (mkF m 82 #[iv v0, iv ((v0 &&& (2147483647 : Int32)) % (6 : Int32)), rv r_STRICT, .unset] [(.int (0 : Int32))]))) (fun t_ kont => XS.iconst X102.here hx rfl (hb hby at_81) kont) ?_
            refine own_bk (S' := (T101.setTop (mkF m 83 #[iv v0, iv ((v0 &&& (2147483647 : Int32)) % (6 : Int32)), rv r_STRICT, iv (0 : Int32)] []))) (fun t_ kont => XS.istoreN X102.here hx rfl (hb hby at_82) rfl (l' := #[iv v0, iv ((v0 &&& (2147483647 : Int32)) % (6 : Int32)), rv r_STRICT, iv (0 : Int32)]) rfl kont) ?_
            refine own_bk (S' := (T101.setTop (mkF m 84 #[iv v0, iv ((v0 &&& (2147483647 : Int32)) % (6 : Int32)), rv r_STRICT, iv (0 : Int32)] [(.ref r_STRICT)]))) (fun t_ kont => XS.aloadN X102.here hx rfl (hb hby at_83) rfl rfl kont) ?_
            obtain ⟨cqq116, kqq116, q116a, q116b, q116c⟩ := isOf hZ e103 G_STRICT.2.1
            obtain ⟨_, _, ⟨T105, L106, k107, n108⟩, -, X109, ⟨Lc110, hQ111, l112, y113, z114⟩, st115⟩ := X102.virtualBack hx (y := (⟨"com/example/overweave/overweave/merge/NodeMarker", "removesMarkedElement", "()Z"⟩ : MethodName)) (z := (⟨"com/example/overweave/overweave/merge/NodeMarker", "removesMarkedElement", "()Z"⟩ : MethodName)) hown (mvT hZ (hw _ (List.mem_of_getElem? (i := 4) rfl))) (mvT hZ (hw _ (List.mem_of_getElem? (i := 5) rfl))) (notFace_of_selects (args := #[]) (mvT hZ (hw _ (List.mem_of_getElem? (i := 7) rfl)))) (mvT hZ (hw _ (List.mem_of_getElem? (i := 7) rfl))) (mvT hZ (hw _ (List.mem_of_getElem? (i := 6) rfl))) (by decide) (backOf (W := 0) (rm1 l Z a0 hw [] r_STRICT r_REMOVE r_REMOVE_ALL (0 : Int32) h0 n0 Z0 G_REMOVE.1 G_REMOVE_ALL.1 (by simp [(G_STRICT.ne G_REMOVE (by decide)), (G_STRICT.ne G_REMOVE_ALL (by decide))])) hZ (hw _ (List.mem_of_getElem? (i := 8) rfl)) (hw _ (List.mem_of_getElem? (i := 2) rfl)) (by decide) (by decide)) q116a q116c (g := (mkF m 84 #[iv v0, iv ((v0 &&& (2147483647 : Int32)) % (6 : Int32)), rv r_STRICT, iv (0 : Int32)] [(.ref r_STRICT)])) rfl (by rw [hml]; rfl) (Steps.refl _) (argsL := []) (rest := []) (lenOf (by decide +kernel : parseMethodDescriptor "()Z" = some ⟨[], some .boolean⟩) rfl) rfl (by show 2 * 0 + _ ≤ _; exact Nat.le_of_eq rfl) (hb hby at_84) (fun _ _ => ⟨rfl, e103, (by decide : 0 + 0 ≤ _), (by decide : 0 + 0 ≤ _)⟩)
            dsimp only [Pt.U, Pt.locs, Pt.cells, Pt.slots] at X109 l112 y113 z114 st115 hQ111
            subst l112 y113 z114
            obtain ⟨rfl, N117, e118⟩ := hQ111
            have N119 := Fr.app N0 N117
            refine own_tr (S' := (T105.setTop (mkF m 87 #[iv v0, iv ((v0 &&& (2147483647 : Int32)) % (6 : Int32)), rv r_STRICT, iv (0 : Int32)] [(.int (0 : Int32))]))) st115 ?_
            refine own_bk (S' := (T105.setTop (mkF m 88 #[iv v0, iv ((v0 &&& (2147483647 : Int32)) % (6 : Int32)), rv r_STRICT, iv (0 : Int32)] [(.int (0 : Int32)), (.int (0 : Int32))]))) (fun t_ kont => XS.iloadN X109.here hx rfl (hb hby at_87) rfl kont) ?_
            refine own_bk (S' := (T105.setTop (mkF m 91 #[iv v0, iv ((v0 &&& (2147483647 : Int32)) % (6 : Int32)), rv r_STRICT, iv (0 : Int32)] []))) (fun t_ kont => XS.icmpNo X109.here hx rfl (hb hby at_88) rfl (teq (by decide : ((0 : Int32)) = ((0 : Int32)))).2 kont) ?_
            refine own_bk (S' := (T105.setTop (mkF m 92 #[iv v0, iv ((v0 &&& (2147483647 : Int32)) % (6 : Int32)), rv r_STRICT, iv (0 : Int32)] [(.int (1 : Int32))]))) (fun t_ kont => XS.iconst X109.here hx rfl (hb hby at_91) kont) ?_
            refine own_bk (S' := (T105.setTop (mkF m 96 #[iv v0, iv ((v0 &&& (2147483647 : Int32)) % (6 : Int32)), rv r_STRICT, iv (0 : Int32)] [(.int (1 : Int32))]))) (fun t_ kont => XS.goto X109.here hx rfl (pc0 := 92) (pc' := 96) rfl (hb hby at_92) (by decide) (by decide) kont) ?_
            exact own_retN X109 hx hlk (t := .boolean) (w := (1 : Int32)) Bd.returns (by simp) (hb hby at_96) rfl ⟨rfl, N119⟩ (by decide) (by decide)
set_option maxRecDepth 65536 in
set_option maxHeartbeats 40000000 in
theorem comes_1 {Post : Tables → Env → Array Value → State → Outcome → State → Prop} (hpost : ∀ tb e args s v u, (limb_1_1.after args s (.returned v) u = true ∧ limb_1_2.after args s (.returned v) u = true ∧ True) → FrameEnd s (.returned v) u (Jvm.fieldLocs frame_1_writes args s ++ Jvm.arrayLocs frame_1_arrays args s ++ Jvm.staticLocs frame_1_statics s) 0 0 → Post tb e args s (.returned v) u) :
    ArmFor flags0 classFile x code maxLocals ret World_1 tables_1 room_1 Calls_1 rest_1 Pre_1 Post := by
  intro l hfl _ _ p e ha hc hk s m args below hf hA hF happ hP
  obtain ⟨hcalls, hrest, hpre⟩ := hP
  obtain ⟨-, -, -, hnamed, -, -, -, hat⟩ := (Spec.applies_iff hf).mp happ
  obtain ⟨hg, hn⟩ := and_e (Cond.before_iff.mp (show (Jvm.Cond.and given_1 narrow_1).before args s = true from hpre))
  obtain ⟨g0, hg⟩ := and_e hg
  have g1 := hg
  obtain ⟨w0, rfl⟩ : ∃ w0 : Value, args = #[w0] := by
    have hs : args.size = 1 := by simpa [Cond.value, given_1] using g0
    obtain ⟨L⟩ := args
    match L, hs with
    | [w0], _ => exact ⟨w0, rfl⟩
  have hw := fun d (hd : d ∈ tables_1) => atoms_spec (ws := Jvm.Cond.code x code maxLocals ret :: tables_1) hat d (List.mem_cons_of_mem _ hd)
  have hfit : Fit s := fun {y c} hc i hi => by
    obtain ⟨ha, rfl⟩ := Array.getElem?_eq_some_iff.mp hc
    have q := List.all_eq_true.mp ((Array.all_eq_true_iff_forall_mem.mp hF) _ (Array.getElem_mem ha)) i (List.mem_range.mpr hi)
    simpa [Array.getElem?_eq_getElem hi] using q
  obtain ⟨v0, ev0⟩ := is_v g1
  obtain rfl : w0 = (.int v0) := Option.some.inj ev0
  obtain ⟨c0, hn⟩ := and_e hn
  obtain ⟨c1, hn⟩ := and_e hn
  obtain ⟨c2, hn⟩ := and_e hn
  obtain ⟨c3, hn⟩ := and_e hn
  obtain ⟨c4, hn⟩ := and_e hn
  obtain ⟨c5, hn⟩ := and_e hn
  obtain ⟨c6, hn⟩ := and_e hn
  obtain ⟨c7, hn⟩ := and_e hn
  obtain ⟨c8, hn⟩ := and_e hn
  obtain ⟨c9, hn⟩ := and_e hn
  obtain ⟨c10, hn⟩ := and_e hn
  have c11 := hn
  obtain ⟨r_MERGE, ev_MERGE⟩ := exa_v c0
  have G_MERGE : own_E s s.heap r_MERGE "com/example/overweave/overweave/merge/NodeMarker" "MERGE" "Lcom/example/overweave/overweave/merge/NodeMarker;" 0 := ⟨Sta.start ev_MERGE (Or.inr ⟨(hw _ (List.mem_of_getElem? (i := 2) rfl)), (hw _ (List.mem_of_getElem? (i := 3) rfl))⟩), Exa.start ev_MERGE c0, Fld.start (own_fldInt c2 ev_MERGE)⟩
  obtain ⟨r_REMOVE, ev_REMOVE⟩ := exa_v c1
  have G_REMOVE : own_E s s.heap r_REMOVE "com/example/overweave/overweave/merge/NodeMarker" "REMOVE" "Lcom/example/overweave/overweave/merge/NodeMarker;" 2 := ⟨Sta.start ev_REMOVE (Or.inr ⟨(hw _ (List.mem_of_getElem? (i := 2) rfl)), (hw _ (List.mem_of_getElem? (i := 10) rfl))⟩), Exa.start ev_REMOVE c1, Fld.start (own_fldInt c3 ev_REMOVE)⟩
  obtain ⟨r_REMOVE_ALL, ev_REMOVE_ALL⟩ := exa_v c4
  have G_REMOVE_ALL : own_E s s.heap r_REMOVE_ALL "com/example/overweave/overweave/merge/NodeMarker" "REMOVE_ALL" "Lcom/example/overweave/overweave/merge/NodeMarker;" 3 := ⟨Sta.start ev_REMOVE_ALL (Or.inr ⟨(hw _ (List.mem_of_getElem? (i := 2) rfl)), (hw _ (List.mem_of_getElem? (i := 12) rfl))⟩), Exa.start ev_REMOVE_ALL c4, Fld.start (own_fldInt c5 ev_REMOVE_ALL)⟩
  obtain ⟨r_MERGE_ONLY_ATTRIBUTES, ev_MERGE_ONLY_ATTRIBUTES⟩ := exa_v c6
  have G_MERGE_ONLY_ATTRIBUTES : own_E s s.heap r_MERGE_ONLY_ATTRIBUTES "com/example/overweave/overweave/merge/NodeMarker" "MERGE_ONLY_ATTRIBUTES" "Lcom/example/overweave/overweave/merge/NodeMarker;" 1 := ⟨Sta.start ev_MERGE_ONLY_ATTRIBUTES (Or.inr ⟨(hw _ (List.mem_of_getElem? (i := 2) rfl)), (hw _ (List.mem_of_getElem? (i := 16) rfl))⟩), Exa.start ev_MERGE_ONLY_ATTRIBUTES c6, Fld.start (own_fldInt c7 ev_MERGE_ONLY_ATTRIBUTES)⟩
  obtain ⟨r_STRICT, ev_STRICT⟩ := exa_v c8
  have G_STRICT : own_E s s.heap r_STRICT "com/example/overweave/overweave/merge/NodeMarker" "STRICT" "Lcom/example/overweave/overweave/merge/NodeMarker;" 5 := ⟨Sta.start ev_STRICT (Or.inr ⟨(hw _ (List.mem_of_getElem? (i := 2) rfl)), (hw _ (List.mem_of_getElem? (i := 18) rfl))⟩), Exa.start ev_STRICT c8, Fld.start (own_fldInt c9 ev_STRICT)⟩
  obtain ⟨r_REPLACE, ev_REPLACE⟩ := exa_v c10
  have G_REPLACE : own_E s s.heap r_REPLACE "com/example/overweave/overweave/merge/NodeMarker" "REPLACE" "Lcom/example/overweave/overweave/merge/NodeMarker;" 4 := ⟨Sta.start ev_REPLACE (Or.inr ⟨(hw _ (List.mem_of_getElem? (i := 2) rfl)), (hw _ (List.mem_of_getElem? (i := 20) rfl))⟩), Exa.start ev_REPLACE c10, Fld.start (own_fldInt c11 ev_REPLACE)⟩
  obtain ⟨n, o, h1, h2, h3, _, L, rfl, ⟨rfl, N⟩, hq⟩ := rm0 l s _ hw tables_1 v0 r_MERGE r_REMOVE r_REMOVE_ALL r_MERGE_ONLY_ATTRIBUTES r_STRICT r_REPLACE s.heap s.heap.size (Nat.le_refl _) G_MERGE G_REMOVE G_REMOVE_ALL G_MERGE_ONLY_ATTRIBUTES G_STRICT G_REPLACE p e ha hc hk s m _ below hf ((Spec.applies_iff_loose hf).mp happ).1 ⟨rfl, State.Warmed39.refl s, rfl⟩ trivial
  refine ⟨n, _, h1, h2, h3, hpost _ _ _ _ _ _ ⟨Cond.after_iff.mpr rfl, Cond.after_iff.mpr (eq_i res_at (Term.int_eval (1)) rfl), trivial⟩ ⟨hq.1, hq.2.1, (hq.2.2.sift fun y hy => Or.inr (N y hy)).mono (by decide) (by decide)⟩⟩
theorem main_1_1 : Claimed_1_1 := comes_1 fun _ _ _ _ _ _ h hF => ⟨h.1, hF⟩
theorem main_1_2 : Claimed_1_2 := comes_1 fun _ _ _ _ _ _ h hF => ⟨h.2.1, hF⟩
end Jvm.Pilot.@@N@@
namespace Jvm.Pilot.@@N@@
open Jvm Jvm.ClassFile Sem Op Lib Jvm.Free Jvm.Stand Jvm.Pilot.@@N@@.Jvm.D
/-! MADE BY PROGRAM (witnessworld.py) out of the Statement's table words and the real class files: 12 classes; the members and pool entries that the words name. The judged class is class 1, her method 1. -/
namespace start1
open Jvm.ClassFile
def u (s : String) : CpInfo := .utf8 (stringToUtf16 s)
/-- a pool by its gaps: so many unusable entries, then the entry; so many at the end -/
def gap : Nat → List CpInfo → List CpInfo
  | 0, r => r
  | n + 1, r => .unusable :: gap n r
def poolList (es : List (Nat × CpInfo)) (last : Nat) : List CpInfo := es.foldr (fun e r => gap e.1 (e.2 :: r)) (gap last [])
def pool (es : List (Nat × CpInfo)) (last : Nat) : Array CpInfo := ⟨poolList es last⟩
def fileOf (pool : Array CpInfo) (this : Nat) (attrs : Array Attribute := #[]) (ms : Array MethodInfo := #[]) (fl : Nat := 33) (sup : Nat := 0) (ifs : Array Nat := #[]) (fds : Array FieldInfo := #[]) : ClassFile where
  minorVersion := 0
  majorVersion := 65
  constantPool := pool
  accessFlags := fl
  thisClass := this
  superClass := sup
  interfaces := ifs
  fields := fds
  methods := ms
  attributes := attrs
def plain (name : String) (sup : Option ClassId) : Class where
  name := name
  kind := .ordinary
  loader := none
  accessFlags := 33
  super := sup
  interfaces := #[]
  cf := none
  fields := #[]
  methods := #[]
  instanceTypes := #[]
  staticTypes := #[]
  resolved := #[]
  callSites := []
  init := .initialized
  statics := none
  mirror := none

def pool0 : Array CpInfo := pool [(5, u "<init>"), (0, u "()V"), (1, .class_ 10), (1, u "java/lang/Object")] 113

def k0m0 : Method := { name := "<init>", desc := "()V", sig := { parameters := [], returnType := none }, accessFlags := 1, code := none }
/-- java/lang/Object -/
def k0 : Class := { plain "java/lang/Object" none with
  accessFlags := 33
  interfaces := #[]
  cf := some (fileOf pool0 8 #[] #[{ accessFlags := 1, nameIndex := 5, descriptorIndex := 6, attributes := #[] }] 33 0 #[] #[])
  fields := #[]
  methods := #[k0m0]
  instanceTypes := #[]
  staticTypes := #[]
  resolved := Array.replicate 124 none
  statics := none }

def pool1 : Array CpInfo := pool [(2, .class_ 4), (1, u "java/lang/Object"), (0, u "<init>"), (0, u "()V"), (0, .integer 2147483647), (0, .fieldref 9 10), (0, .class_ 11), (0, .nameAndType 12 13), (0, u "com/example/overweave/overweave/merge/NodeMarker"), (0, u "MERGE"), (0, u "Lcom/example/overweave/overweave/merge/NodeMarker;"), (0, .fieldref 9 15), (0, .nameAndType 16 13), (0, u "MERGE_ONLY_ATTRIBUTES"), (0, .fieldref 9 18), (0, .nameAndType 19 13), (0, u "REMOVE"), (0, .fieldref 9 21), (0, .nameAndType 22 13), (0, u "REMOVE_ALL"), (0, .fieldref 9 24), (0, .nameAndType 25 13), (0, u "REPLACE"), (0, .fieldref 9 27), (0, .nameAndType 28 13), (0, u "STRICT"), (0, .methodref 9 30), (0, .nameAndType 31 32), (0, u "removesMarkedElement"), (0, u "()Z"), (0, .class_ 34), (0, u "com/example/overweave/overweave/merge/NodeMarkerRemovesMarkedElementPinLaw"), (2, u "law"), (0, u "(I)Z")] 3

def k1m0 : Method := { name := "<init>", desc := "()V", sig := { parameters := [], returnType := none }, accessFlags := 1, code := none }
def k1c1 : Code := { maxStack := 2, maxLocals := 4, code := code, exceptionTable := #[], attributes := #[] }
def k1m1 : Method := { name := "law", desc := "(I)Z", sig := { parameters := [.int], returnType := some .boolean }, accessFlags := 9, code := some k1c1 }
/-- com/example/overweave/overweave/merge/NodeMarkerRemovesMarkedElementPinLaw -/
def k1 : Class := { plain "com/example/overweave/overweave/merge/NodeMarkerRemovesMarkedElementPinLaw" (some 0) with
  accessFlags := 49
  interfaces := #[]
  cf := some (fileOf pool1 33 #[] #[{ accessFlags := 1, nameIndex := 5, descriptorIndex := 6, attributes := #[] }, { accessFlags := 9, nameIndex := 37, descriptorIndex := 38, attributes := #[] }] 49 2 #[] #[])
  fields := #[]
  methods := #[k1m0, k1m1]
  instanceTypes := #[]
  staticTypes := #[]
  resolved := Array.replicate 42 none
  statics := none }

def pool2 : Array CpInfo := pool [(1, .class_ 2), (0, u "java/lang/constant/Constable"), (0, .class_ 4), (0, u "java/lang/Object")] 6

/-- java/lang/constant/Constable -/
def k2 : Class := { plain "java/lang/constant/Constable" (some 0) with
  accessFlags := 1537
  interfaces := #[]
  cf := some (fileOf pool2 1 #[] #[] 1537 3 #[] #[])
  fields := #[]
  methods := #[]
  instanceTypes := #[]
  staticTypes := #[]
  resolved := Array.replicate 11 none
  statics := none }

def pool3 : Array CpInfo := pool [(1, .class_ 2), (0, u "java/lang/Comparable"), (0, .class_ 4), (0, u "java/lang/Object")] 7

/-- java/lang/Comparable -/
def k3 : Class := { plain "java/lang/Comparable" (some 0) with
  accessFlags := 1537
  interfaces := #[]
  cf := some (fileOf pool3 1 #[] #[] 1537 3 #[] #[])
  fields := #[]
  methods := #[]
  instanceTypes := #[]
  staticTypes := #[]
  resolved := Array.replicate 12 none
  statics := none }

def pool4 : Array CpInfo := pool [(1, .class_ 2), (0, u "java/io/Serializable"), (0, .class_ 4), (0, u "java/lang/Object")] 2

/-- java/io/Serializable -/
def k4 : Class := { plain "java/io/Serializable" (some 0) with
  accessFlags := 1537
  interfaces := #[]
  cf := some (fileOf pool4 1 #[] #[] 1537 3 #[] #[])
  fields := #[]
  methods := #[]
  instanceTypes := #[]
  staticTypes := #[]
  resolved := Array.replicate 7 none
  statics := none }

def pool5 : Array CpInfo := pool [(2, .class_ 4), (1, u "java/lang/Enum"), (0, u "name"), (0, u "Ljava/lang/String;"), (2, u "ordinal"), (0, u "I"), (1, .class_ 14), (1, u "java/lang/Object"), (4, u "hash"), (86, .class_ 108), (1, u "java/lang/Enum$EnumDesc"), (2, .class_ 112), (0, u "java/lang/constant/Constable"), (0, .class_ 114), (0, u "java/lang/Comparable"), (0, .class_ 116), (0, u "java/io/Serializable")] 87

/-- java/lang/Enum -/
def k5 : Class := { plain "java/lang/Enum" (some 0) with
  accessFlags := 1057
  interfaces := #[2, 3, 4]
  cf := some (fileOf pool5 2 #[.nestMembers #[106]] #[] 1057 12 #[111, 113, 115] #[{ accessFlags := 18, nameIndex := 5, descriptorIndex := 6, attributes := #[] }, { accessFlags := 18, nameIndex := 9, descriptorIndex := 10, attributes := #[] }, { accessFlags := 2, nameIndex := 19, descriptorIndex := 10, attributes := #[] }])
  fields := #[{ name := "name", type := (.object "java/lang/String"), accessFlags := 18, slot := 0, constantValue := 0 }, { name := "ordinal", type := .int, accessFlags := 18, slot := 1, constantValue := 0 }, { name := "hash", type := .int, accessFlags := 2, slot := 2, constantValue := 0 }]
  methods := #[]
  instanceTypes := #[(.object "java/lang/String"), .int, .int]
  staticTypes := #[]
  resolved := Array.replicate 204 none
  statics := none }

def pool6 : Array CpInfo := pool [(1, .class_ 2), (0, u "com/example/overweave/overweave/merge/NodeMarker"), (2, u "MERGE"), (0, u "Lcom/example/overweave/overweave/merge/NodeMarker;"), (2, u "MERGE_ONLY_ATTRIBUTES"), (0, .fieldref 1 11), (0, .nameAndType 12 6), (0, u "REMOVE"), (0, .fieldref 1 14), (0, .nameAndType 15 6), (0, u "REMOVE_ALL"), (2, u "REPLACE"), (2, u "STRICT"), (2, u "$VALUES"), (0, u "[Lcom/example/overweave/overweave/merge/NodeMarker;"), (6, .class_ 34), (1, u "java/lang/Enum"), (8, u "value"), (0, u "Ljava/lang/String;"), (49, u "()Z"), (29, u "ALL"), (0, u "Ljava/util/List;"), (71, u "ATTRIBUTE"), (8, u "removesMarkedElement")] 44

def k6c0 : Code := { maxStack := 2, maxLocals := 1, code := prog_33_method_6_code, exceptionTable := #[], attributes := #[] }
def k6m0 : Method := { name := "removesMarkedElement", desc := "()Z", sig := { parameters := [], returnType := some .boolean }, accessFlags := 0, code := some k6c0 }
/-- com/example/overweave/overweave/merge/NodeMarker -/
def k6 : Class := { plain "com/example/overweave/overweave/merge/NodeMarker" (some 5) with
  accessFlags := 16432
  interfaces := #[]
  cf := some (fileOf pool6 1 #[] #[{ accessFlags := 0, nameIndex := 206, descriptorIndex := 94, attributes := #[] }] 16432 32 #[] #[{ accessFlags := 16409, nameIndex := 5, descriptorIndex := 6, attributes := #[] }, { accessFlags := 16409, nameIndex := 9, descriptorIndex := 6, attributes := #[] }, { accessFlags := 16409, nameIndex := 12, descriptorIndex := 6, attributes := #[] }, { accessFlags := 16409, nameIndex := 15, descriptorIndex := 6, attributes := #[] }, { accessFlags := 16409, nameIndex := 18, descriptorIndex := 6, attributes := #[] }, { accessFlags := 16409, nameIndex := 21, descriptorIndex := 6, attributes := #[] }, { accessFlags := 24, nameIndex := 197, descriptorIndex := 44, attributes := #[] }, { accessFlags := 26, nameIndex := 124, descriptorIndex := 125, attributes := #[] }, { accessFlags := 18, nameIndex := 43, descriptorIndex := 44, attributes := #[] }, { accessFlags := 4122, nameIndex := 24, descriptorIndex := 25, attributes := #[] }])
  fields := #[{ name := "MERGE", type := (.object "com/example/overweave/overweave/merge/NodeMarker"), accessFlags := 16409, slot := 0, constantValue := 0 }, { name := "MERGE_ONLY_ATTRIBUTES", type := (.object "com/example/overweave/overweave/merge/NodeMarker"), accessFlags := 16409, slot := 1, constantValue := 0 }, { name := "REMOVE", type := (.object "com/example/overweave/overweave/merge/NodeMarker"), accessFlags := 16409, slot := 2, constantValue := 0 }, { name := "REMOVE_ALL", type := (.object "com/example/overweave/overweave/merge/NodeMarker"), accessFlags := 16409, slot := 3, constantValue := 0 }, { name := "REPLACE", type := (.object "com/example/overweave/overweave/merge/NodeMarker"), accessFlags := 16409, slot := 4, constantValue := 0 }, { name := "STRICT", type := (.object "com/example/overweave/overweave/merge/NodeMarker"), accessFlags := 16409, slot := 5, constantValue := 0 }, { name := "ATTRIBUTE", type := (.object "java/lang/String"), accessFlags := 24, slot := 6, constantValue := 0 }, { name := "ALL", type := (.object "java/util/List"), accessFlags := 26, slot := 7, constantValue := 0 }, { name := "value", type := (.object "java/lang/String"), accessFlags := 18, slot := 3, constantValue := 0 }, { name := "$VALUES", type := (.array (.object "com/example/overweave/overweave/merge/NodeMarker")), accessFlags := 4122, slot := 8, constantValue := 0 }]
  methods := #[k6m0]
  instanceTypes := #[(.object "java/lang/String"), .int, .int, (.object "java/lang/String")]
  staticTypes := #[(.object "com/example/overweave/overweave/merge/NodeMarker"), (.object "com/example/overweave/overweave/merge/NodeMarker"), (.object "com/example/overweave/overweave/merge/NodeMarker"), (.object "com/example/overweave/overweave/merge/NodeMarker"), (.object "com/example/overweave/overweave/merge/NodeMarker"), (.object "com/example/overweave/overweave/merge/NodeMarker"), (.object "java/lang/String"), (.object "java/util/List"), (.array (.object "com/example/overweave/overweave/merge/NodeMarker"))]
  resolved := Array.replicate 251 none
  statics := some 0 }

def pool7 : Array CpInfo := pool [(1, u "java/lang/Cloneable"), (0, .class_ 1), (0, u "java/lang/Object"), (0, .class_ 3)] 3

/-- java/lang/Cloneable -/
def k7 : Class := { plain "java/lang/Cloneable" (some 0) with
  accessFlags := 1537
  interfaces := #[]
  cf := some (fileOf pool7 2 #[] #[] 1537 4 #[] #[])
  fields := #[]
  methods := #[]
  instanceTypes := #[]
  staticTypes := #[]
  resolved := Array.replicate 8 none
  statics := none }

/-- the primitive byte -/
def k8 : Class := { plain "byte" none with kind := .primitive 'B', accessFlags := 0x411 }
/-- [B -/
def k9 : Class := { plain "[B" (some 0) with kind := .array 8 .byte, interfaces := #[7, 4], accessFlags := 1041 }

/-- the primitive int -/
def k10 : Class := { plain "int" none with kind := .primitive 'I', accessFlags := 0x411 }
/-- [I -/
def k11 : Class := { plain "[I" (some 0) with kind := .array 10 .int, interfaces := #[7, 4], accessFlags := 1041 }

def heap : Heap := #[{ cls := 6, slots := #[.ref 1, .ref 4, .ref 2, .ref 3, .ref 6, .ref 5, .null, .null, .null], vm := .statics 6 },
  { cls := 6, slots := #[.null, .int 0, .int 0, .null], vm := .none },
  { cls := 6, slots := #[.null, .int 2, .int 0, .null], vm := .none },
  { cls := 6, slots := #[.null, .int 3, .int 0, .null], vm := .none },
  { cls := 6, slots := #[.null, .int 1, .int 0, .null], vm := .none },
  { cls := 6, slots := #[.null, .int 5, .int 0, .null], vm := .none },
  { cls := 6, slots := #[.null, .int 4, .int 0, .null], vm := .none }]
def classes : Array Class := #[k0, k1, k2, k3, k4, k5, k6, k7, k8, k9, k10, k11]
def interned : List (Array UInt16 × Addr) := []
def slotsUsed : Nat := 33
def theMethod : MethodId := ⟨1, 1⟩
def args0 : Array Value := #[.int 5]
def aboutOver (below : List Frame) : State where
  vm := { classes := classes, interned := interned.toArray }
  heap := heap
  slotsUsed := slotsUsed
  threads := #[{ frames := .invoking theMethod args0 :: below }]
def below0 : List Frame := [.native { method := ⟨0, 0⟩, args := #[] }]
def about1 : State := aboutOver below0
def p0 : Program := .bare "" "" ""
def e0 : Env := launch0.env 0 0 0
theorem w_frames : about1.frames = Frame.invoking theMethod args0 :: below0 := rfl
set_option maxRecDepth 65536 in
theorem w_args : argsFit about1.vm theMethod args0 = true := by decide +kernel
set_option maxRecDepth 65536 in
theorem w_heap : heapFits about1 = true := by decide +kernel
set_option maxRecDepth 65536 in
theorem w_runnable : about1.curStatus? = some .runnable := by decide +kernel
set_option maxRecDepth 65536 in
theorem w_alone : about1.alone = true := by decide +kernel
set_option maxRecDepth 65536 in
theorem w_named : about1.methodNamed? x = some theMethod := by decide +kernel
set_option maxRecDepth 65536 in
theorem w_hears : about1.hears theMethod below0 = true := by decide +kernel
set_option maxRecDepth 65536 in
theorem w_ripe : about1.ripe theMethod args0 below0 = true := by decide +kernel
theorem w_running : about1.status = .running := rfl
set_option maxRecDepth 65536 in
theorem w_room : about1.hasRoom e0.platform room_1 = true :=
  launch0.hasRoom_least _ room_1 (by decide +kernel) (by decide +kernel) (by decide +kernel) (by decide +kernel) (by decide +kernel) (by decide +kernel)
theorem allAtoms_all (ts : List Jvm.Cond) (a : Array Jvm.Value) (st : Jvm.State) : (allAtoms ts).before a st = ts.all (fun c => c.before a st) := by
  induction ts with
  | nil => rfl
  | cons c t ih =>
    show (Jvm.Cond.and c (allAtoms t)).before a st = _
    rw [Jvm.Cond.before_and, ih, List.all_cons]
def words1 : List Jvm.Cond := Jvm.Cond.code x code maxLocals ret :: tables_1
/-- a 'code' word, met by the world's own term for the bytes: nothing is compared byte by byte -/
theorem code_word {y : MethodName} {bytes : ByteArray} {mx : Nat} {rt : Option FieldType} {a : Array Value} {s : State} {m : MethodId} {meth : Method} {c : Code} (h1 : s.methodNamed? y = some m) (h2 : s.vm.method? m = some meth) (h3 : meth.code = some c) (h4 : c.code = bytes)
    (h5 : (c.maxLocals == mx && c.exceptionTable.isEmpty && decide (c.maxStack ≤ mostOperands) && decide (meth.sig.returnType = rt) && !meth.locks && decide (parseMethodDescriptor y.desc = some meth.sig)) = true) : (Jvm.Cond.code y bytes mx rt).before a s = true := by
  simp only [Bool.and_eq_true, beq_iff_eq, Bool.not_eq_true', decide_eq_true_eq] at h5
  obtain ⟨⟨⟨⟨⟨g1, g2⟩, g3⟩, g4⟩, g5⟩, g6⟩ := h5
  simp [Cond.before, Cond.holds, Cond.value, h1, h2, h3, h4, g1, g2, g3, g4, g5, g6]
def isCode : Jvm.Cond → Bool
  | .code _ _ _ _ => true
  | _ => false
theorem all_split {L : List Jvm.Cond} {P : Jvm.Cond → Bool} (h1 : L.all (fun c => isCode c || P c) = true) (h2 : ∀ c ∈ L.filter isCode, P c = true) : L.all P = true := by
  refine List.all_eq_true.mpr fun c hc => ?_
  have h := List.all_eq_true.mp h1 c hc
  rcases Bool.eq_false_or_eq_true (isCode c) with hi | hi
  · exact h2 c (List.mem_filter.mpr ⟨hc, hi⟩)
  · simpa [hi] using h
set_option maxRecDepth 65536 in
theorem w_c0 : (Jvm.Cond.code x code maxLocals ret).before args0 about1 = true := code_word (m := ⟨1, 1⟩) (meth := k1m1) (c := k1c1) (by decide +kernel) rfl rfl rfl (by decide +kernel)
set_option maxRecDepth 65536 in
theorem w_c1 : (Jvm.Cond.code ({ cls := "com/example/overweave/overweave/merge/NodeMarker", name := "removesMarkedElement", desc := "()Z" } : Jvm.MethodName) prog_33_method_6_code (1 : Nat) (Option.some Jvm.ClassFile.FieldType.boolean)).before args0 about1 = true := code_word (m := ⟨6, 0⟩) (meth := k6m0) (c := k6c0) (by decide +kernel) rfl rfl rfl (by decide +kernel)
def codes1 : List Jvm.Cond := [Jvm.Cond.code x code maxLocals ret, Jvm.Cond.code ({ cls := "com/example/overweave/overweave/merge/NodeMarker", name := "removesMarkedElement", desc := "()Z" } : Jvm.MethodName) prog_33_method_6_code (1 : Nat) (Option.some Jvm.ClassFile.FieldType.boolean)]
set_option maxRecDepth 65536 in
theorem codes_eq : words1.filter isCode = codes1 := rfl
theorem w_codes : ∀ c ∈ words1.filter isCode, c.before args0 about1 = true := by
  rw [codes_eq]
  intro c hc
  simp only [codes1, List.mem_cons, List.not_mem_nil, or_false] at hc
  rcases hc with rfl | rfl
  · exact w_c0
  · exact w_c1
set_option maxRecDepth 65536 in
theorem w_t1 : words1.all (fun c => isCode c || c.before args0 about1) = true := by decide +kernel
theorem w_tables : (allAtoms (Jvm.Cond.code x code maxLocals ret :: tables_1)).before args0 about1 = true := by
  rw [allAtoms_all]
  show words1.all (fun c => c.before args0 about1) = true
  refine all_split ?_ w_codes
  rw [w_t1]
set_option maxRecDepth 65536 in
theorem w_case : (Jvm.Cond.and given_1 narrow_1).before args0 about1 = true := by decide +kernel
theorem w_applies : (headSpec (Jvm.Cond.code x code maxLocals ret :: tables_1) room_1).applies x e0.platform about1 = true :=
  (Spec.applies_iff w_frames).mpr ⟨w_running, w_runnable, w_alone, w_named, w_hears, w_ripe, w_room, w_tables⟩
theorem atStart : AtStart classFile x code maxLocals ret World_1 tables_1 room_1 Calls_1 rest_1 Pre_1 launch0 p0 e0 about1 theMethod args0 below0 :=
  ⟨lists_1, trivial, launch0.admits_env _ _ _, launch0.least_env, fairChoices_fair.cas, fairChoices_fair.clock, w_frames, w_args, w_heap, w_applies, trivial, trivial, w_case⟩
end start1
theorem witness_1 : WitnessClaimed_1 := ⟨start1.p0, start1.e0, start1.about1, start1.theMethod, start1.args0, start1.below0, start1.atStart⟩
end Jvm.Pilot.@@N@@
