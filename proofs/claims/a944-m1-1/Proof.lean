import JvmDerived
import JvmDerived.Pilot.@@N@@Statement
import JvmDerived.Pilot.@@N@@Code
set_option linter.unusedVariables false
set_option linter.unusedSimpArgs false
namespace Jvm.RoadKit
open Sem ClassFile Op Lib Jvm.Stand Jvm.Free Jvm.LawKit
section New
variable {p : Program} {l : Launch} {e : Env} {R : Room} {s : State} {m : MethodId} {args : Array Value} {below : List Frame} {meth : Method} {c : Code} {T : State} {locs : List Loc} {cells slots : Nat}
theorem retI (X : Stand p l e R s m args below meth c T locs cells slots) (hx : p.tables.exec = Jvm.exec) {pc : Nat} {Ls : Array Slot} {z : Int32} {rest : List Value} (hret : meth.sig.returnType = some .int) (hd : decode c.code pc = .ok (.ireturn, 1)) {fs : List Frame}
    (hl : ∀ (f : JFrame) (acts : List Action), f.method = m → f.locked = none → f.entered = [] → (doReturn e (T.setTop f) acts (some (.int z))).1 = T.setFrames fs) : Steps p.tables e below (T.setTop (mkF m pc Ls (.int z :: rest))) (T.setFrames fs) := by
  have hm' : T.vm.method? m = some meth := X.method'
  have hn : narrow .int (.int z) = .int z := rfl
  show Steps p.tables e below (T.setTop { method := m, pc := pc, locals := Ls, stack := _ :: rest, locked := none }) _
  jvm_step X.here [X.here.top, hx, hd, hm', hret, hn]
  first | (intro acts; rw [hl _ acts rfl rfl rfl]) | rw [hl _ _ rfl rfl rfl]
  exact Steps.refl _
end New
end Jvm.RoadKit
namespace Jvm.Pilot.@@N@@
open Jvm Jvm.ClassFile Sem Op Lib Jvm.Free Jvm.Stand Jvm.LawKit Jvm.RoadKit Bundle Jvm.Pilot.@@N@@.Jvm.D
def own_R (s : State) (below : List Frame) (Q : Option Value → Heap → List Loc → Prop) (rc rs : Nat) (t : State) (o : Outcome) : Prop := t.status = .running ∧ Ended t below o ∧ ∃ v L, o = .returned v ∧ Q v t.heap L ∧ FrameEnd s o t L rc rs
def own_RW (s : State) (below : List Frame) (Q : Option Value → Heap → List Loc → Prop) (rc rs : Nat) (t : State) (o : Outcome) : Prop := t.status = .running ∧ Ended t below o ∧ ∃ v L, o = .returned v ∧ Q v t.heap L ∧ ReturnedEndW s o t L rc rs
def own_Go (p : Program) (e : Env) (below : List Frame) (Rr : State → Outcome → Prop) (S : State) : Prop := ∃ t o, Steps p.tables e below S t ∧ Rr t o
section OwnGo
variable {p : Program} {l : Launch} {e : Env} {R : Room} {s : State} {m : MethodId} {args : Array Value} {below : List Frame} {meth : Method} {c : Code} {T : State} {locs : List Loc} {cells slots : Nat} {Q : Option Value → Heap → List Loc → Prop} {rc rs : Nat} {S S' : State} {Rr : State → Outcome → Prop}
theorem own_bk (st : ∀ t, Steps p.tables e below S' t → Steps p.tables e below S t) (k : own_Go p e below Rr S') : own_Go p e below Rr S := by
  obtain ⟨t, o, h1, h2⟩ := k; exact ⟨t, o, st t h1, h2⟩
theorem own_seg (f : own_Go p e below Rr S' → own_Go p e below Rr S) (k : own_Go p e below Rr S') : own_Go p e below Rr S := f k
theorem own_tr (st : Steps p.tables e below S S') (k : own_Go p e below Rr S') : own_Go p e below Rr S := own_bk (fun t k => st.trans k) k
theorem own_retN (X : Stand p l e R s m args below meth c T locs cells slots) (hx : p.tables.exec = Jvm.exec) (hlk : meth.locks = false) {pc : Nat} {Ls : Array Slot} {z w : Int32} {t : FieldType} {rest : List Value} (hret : meth.sig.returnType = some t) (ht : t = .boolean ∨ t = .byte ∨ t = .char ∨ t = .short) (hd : decode c.code pc = .ok (.ireturn, 1)) (hz : nar t z = w)
    (hQ : Q (some (.int w)) T.heap locs) (hc : cells ≤ rc) (hs : slots ≤ rs) : own_Go p e below (own_R s below Q rc rs) (T.setTop (mkF m pc Ls (.int z :: rest))) := by
  subst hz
  obtain ⟨fs, hr, hrun, hended, hW, hsame⟩ := X.leave (v := some (.int (nar t z))) (fun h => by rw [hret] at h; cases h) hlk
  exact ⟨_, _, retN X hx hret ht hd hr, hrun, hended, _, _, rfl, hQ, ⟨_, rfl⟩, hW, hsame.mono hc hs⟩
theorem own_retNW {vm1 : Vm} {n1 : Nat} (hS : s.Since vm1 n1) (X : Stand p l e R (s.setVm vm1) m args below meth c T locs cells slots) (hn1 : n1 ≤ T.heap.size) (hx : p.tables.exec = Jvm.exec) (hlk : meth.locks = false) {pc : Nat} {Ls : Array Slot} {z w : Int32} {t : FieldType} {rest : List Value} (hret : meth.sig.returnType = some t) (ht : t = .boolean ∨ t = .byte ∨ t = .char ∨ t = .short) (hd : decode c.code pc = .ok (.ireturn, 1)) (hz : nar t z = w)
    (hQ : Q (some (.int w)) T.heap locs) (hc : cells ≤ rc) (hs : slots ≤ rs) : own_Go p e below (own_RW s below Q rc rs) (T.setTop (mkF m pc Ls (.int z :: rest))) := by
  subst hz
  obtain ⟨fs, hr, hrun, hended, hE⟩ := X.leaveW hS hn1 (v := some (.int (nar t z))) (fun h => by rw [hret] at h; cases h) hlk
  exact ⟨_, _, retN X hx hret ht hd hr, hrun, hended, _, _, rfl, hQ, hE.1, hE.2.1, hE.2.2.1, hE.2.2.2.mono hc hs⟩
theorem own_retI (X : Stand p l e R s m args below meth c T locs cells slots) (hx : p.tables.exec = Jvm.exec) (hlk : meth.locks = false) {pc : Nat} {Ls : Array Slot} {z : Int32} {rest : List Value} (hret : meth.sig.returnType = some .int) (hd : decode c.code pc = .ok (.ireturn, 1))
    (hQ : Q (some (.int z)) T.heap locs) (hc : cells ≤ rc) (hs : slots ≤ rs) : own_Go p e below (own_R s below Q rc rs) (T.setTop (mkF m pc Ls (.int z :: rest))) := by
  obtain ⟨fs, hr, hrun, hended, hW, hsame⟩ := X.leave (v := some (.int z)) (fun h => by rw [hret] at h; cases h) hlk
  exact ⟨_, _, retI X hx hret hd hr, hrun, hended, _, _, rfl, hQ, ⟨_, rfl⟩, hW, hsame.mono hc hs⟩
theorem own_retIW {vm1 : Vm} {n1 : Nat} (hS : s.Since vm1 n1) (X : Stand p l e R (s.setVm vm1) m args below meth c T locs cells slots) (hn1 : n1 ≤ T.heap.size) (hx : p.tables.exec = Jvm.exec) (hlk : meth.locks = false) {pc : Nat} {Ls : Array Slot} {z : Int32} {rest : List Value} (hret : meth.sig.returnType = some .int) (hd : decode c.code pc = .ok (.ireturn, 1))
    (hQ : Q (some (.int z)) T.heap locs) (hc : cells ≤ rc) (hs : slots ≤ rs) : own_Go p e below (own_RW s below Q rc rs) (T.setTop (mkF m pc Ls (.int z :: rest))) := by
  obtain ⟨fs, hr, hrun, hended, hE⟩ := X.leaveW hS hn1 (v := some (.int z)) (fun h => by rw [hret] at h; cases h) hlk
  exact ⟨_, _, retI X hx hret hd hr, hrun, hended, _, _, rfl, hQ, hE.1, hE.2.1, hE.2.2.1, hE.2.2.2.mono hc hs⟩
theorem own_retJ (X : Stand p l e R s m args below meth c T locs cells slots) (hx : p.tables.exec = Jvm.exec) (hlk : meth.locks = false) {pc : Nat} {Ls : Array Slot} {z : Int64} {rest : List Value} (hret : meth.sig.returnType = some .long) (hd : decode c.code pc = .ok (.lreturn, 1))
    (hQ : Q (some (.long z)) T.heap locs) (hc : cells ≤ rc) (hs : slots ≤ rs) : own_Go p e below (own_R s below Q rc rs) (T.setTop (mkF m pc Ls (.long z :: rest))) := by
  obtain ⟨fs, hr, hrun, hended, hW, hsame⟩ := X.leave (v := some (.long z)) (fun h => by rw [hret] at h; cases h) hlk
  exact ⟨_, _, retOut X hx hret rfl (Or.inr (Or.inl ⟨rfl, rfl, z, rfl⟩)) hd hr, hrun, hended, _, _, rfl, hQ, ⟨_, rfl⟩, hW, hsame.mono hc hs⟩
theorem own_retJW {vm1 : Vm} {n1 : Nat} (hS : s.Since vm1 n1) (X : Stand p l e R (s.setVm vm1) m args below meth c T locs cells slots) (hn1 : n1 ≤ T.heap.size) (hx : p.tables.exec = Jvm.exec) (hlk : meth.locks = false) {pc : Nat} {Ls : Array Slot} {z : Int64} {rest : List Value} (hret : meth.sig.returnType = some .long) (hd : decode c.code pc = .ok (.lreturn, 1))
    (hQ : Q (some (.long z)) T.heap locs) (hc : cells ≤ rc) (hs : slots ≤ rs) : own_Go p e below (own_RW s below Q rc rs) (T.setTop (mkF m pc Ls (.long z :: rest))) := by
  obtain ⟨fs, hr, hrun, hended, hE⟩ := X.leaveW hS hn1 (v := some (.long z)) (fun h => by rw [hret] at h; cases h) hlk
  exact ⟨_, _, retOut X hx hret rfl (Or.inr (Or.inl ⟨rfl, rfl, z, rfl⟩)) hd hr, hrun, hended, _, _, rfl, hQ, hE.1, hE.2.1, hE.2.2.1, hE.2.2.2.mono hc hs⟩
theorem own_retA (X : Stand p l e R s m args below meth c T locs cells slots) (hx : p.tables.exec = Jvm.exec) (hlk : meth.locks = false) {pc : Nat} {Ls : Array Slot} {w : Value} {t : FieldType} {rest : List Value} (hret : meth.sig.returnType = some t) (ht : t.isReference = true) (hw : w.isRef = true) (hn : narrow t w = w) (hd : decode c.code pc = .ok (.areturn, 1))
    (hQ : Q (some w) T.heap locs) (hc : cells ≤ rc) (hs : slots ≤ rs) : own_Go p e below (own_R s below Q rc rs) (T.setTop (mkF m pc Ls (w :: rest))) := by
  obtain ⟨fs, hr, hrun, hended, hW, hsame⟩ := X.leave (v := some w) (fun h => by rw [hret] at h; cases h) hlk
  exact ⟨_, _, retOut X hx hret hn (Or.inr (Or.inr (Or.inr (Or.inr ⟨rfl, ht, hw⟩)))) hd hr, hrun, hended, _, _, rfl, hQ, ⟨_, rfl⟩, hW, hsame.mono hc hs⟩
theorem own_retAW {vm1 : Vm} {n1 : Nat} (hS : s.Since vm1 n1) (X : Stand p l e R (s.setVm vm1) m args below meth c T locs cells slots) (hn1 : n1 ≤ T.heap.size) (hx : p.tables.exec = Jvm.exec) (hlk : meth.locks = false) {pc : Nat} {Ls : Array Slot} {w : Value} {t : FieldType} {rest : List Value} (hret : meth.sig.returnType = some t) (ht : t.isReference = true) (hw : w.isRef = true) (hn : narrow t w = w) (hd : decode c.code pc = .ok (.areturn, 1))
    (hQ : Q (some w) T.heap locs) (hc : cells ≤ rc) (hs : slots ≤ rs) : own_Go p e below (own_RW s below Q rc rs) (T.setTop (mkF m pc Ls (w :: rest))) := by
  obtain ⟨fs, hr, hrun, hended, hE⟩ := X.leaveW hS hn1 (v := some w) (fun h => by rw [hret] at h; cases h) hlk
  exact ⟨_, _, retOut X hx hret hn (Or.inr (Or.inr (Or.inr (Or.inr ⟨rfl, ht, hw⟩)))) hd hr, hrun, hended, _, _, rfl, hQ, hE.1, hE.2.1, hE.2.2.1, hE.2.2.2.mono hc hs⟩
theorem own_retV (X : Stand p l e R s m args below meth c T locs cells slots) (hx : p.tables.exec = Jvm.exec) (hlk : meth.locks = false) {pc : Nat} {Ls : Array Slot} (hret : meth.sig.returnType = none) (hd : decode c.code pc = .ok (.return_, 1))
    (hQ : Q none T.heap locs) (hc : cells ≤ rc) (hs : slots ≤ rs) : own_Go p e below (own_R s below Q rc rs) (T.setTop (mkF m pc Ls [])) := by
  obtain ⟨fs, hr, hrun, hended, hW, hsame⟩ := X.leave (v := none) (fun _ => rfl) hlk
  exact ⟨_, _, X.returnOut hx hret hd hr, hrun, hended, _, _, rfl, hQ, ⟨_, rfl⟩, hW, hsame.mono hc hs⟩
theorem own_retVW {vm1 : Vm} {n1 : Nat} (hS : s.Since vm1 n1) (X : Stand p l e R (s.setVm vm1) m args below meth c T locs cells slots) (hn1 : n1 ≤ T.heap.size) (hx : p.tables.exec = Jvm.exec) (hlk : meth.locks = false) {pc : Nat} {Ls : Array Slot} (hret : meth.sig.returnType = none) (hd : decode c.code pc = .ok (.return_, 1))
    (hQ : Q none T.heap locs) (hc : cells ≤ rc) (hs : slots ≤ rs) : own_Go p e below (own_RW s below Q rc rs) (T.setTop (mkF m pc Ls [])) := by
  obtain ⟨fs, hr, hrun, hended, hE⟩ := X.leaveW hS hn1 (v := none) (fun _ => rfl) hlk
  exact ⟨_, _, X.returnOut hx hret hd hr, hrun, hended, _, _, rfl, hQ, hE.1, hE.2.1, hE.2.2.1, hE.2.2.2.mono hc hs⟩
end OwnGo
/-- an enum constant of the start: what its static holds, its class, its ordinal -/
def own_E (Z : State) (h : Heap) (r : Addr) (C n d : String) (k : Int32) : Prop := Sta Z h C n d (.ref r) ∧ Exa Z h r C ∧ Fld Z h r "java/lang/Enum" "ordinal" "I" (.int k)
theorem own_E.ext {Z : State} {h h' : Heap} {r : Addr} {C n d : String} {k : Int32} (G : own_E Z h r C n d k) (E : Ext h h') : own_E Z h' r C n d k := ⟨G.1.ext E, G.2.1.ext E, G.2.2.ext E⟩
theorem own_E.ne {Z : State} {h : Heap} {r r' : Addr} {C n d C' n' d' : String} {k k' : Int32} (G : own_E Z h r C n d k) (G' : own_E Z h r' C' n' d' k') (q : k ≠ k') : r ≠ r' := Fld.ne G.2.2 G'.2.2 (fun e => q (Value.int.inj e))
theorem own_fldInt {args : Array Value} {s : State} {t : Term} {C n d : String} {k : Int32} {a : Addr} (h : (Jvm.Cond.eq (.field t C n d) (.int k)).value args s none s [] = some true) (ev : t.eval args s none [] s = some (.ref a)) : s.fieldOf? a C n d = some (.int k) := by
  obtain ⟨x, y, h1, h2, h3, h4⟩ := cmp_v (Or.inl h)
  have h5 : (Term.int k).eval args s none [] s = some (.int k) := Term.int_eval k
  cases h5.symm.trans h2
  obtain ⟨z, rfl⟩ := h4
  have h6 : z = k := gotT (Cond.eq_ints h1 h5) h
  subst h6
  rw [← fld_at ev]; exact h1
theorem own_eq1 {x y : Int32} (h : x = y) : if_icmp.holds .eq x y = true := (teq h).1

theorem own_len {args : Array Value} {s : State} {t : Term} {k : Int32} {a : Addr} {cl : Cell} (h : (Jvm.Cond.eq (.length t) (.int k)).value args s none s [] = some true) (ev : t.eval args s none [] s = some (.ref a)) (ha : s.arrayAt? a = some cl) : cl.slots.size < 2 ^ 31 ∧ cl.slots.size.toInt32 = k := by
  obtain ⟨x, y, h1, h2, h3, h4⟩ := cmp_v (Or.inl h)
  have h5 : (Term.int k).eval args s none [] s = some (.int k) := Term.int_eval k
  cases h5.symm.trans h2
  obtain ⟨z, rfl⟩ := h4
  have h6 : z = k := gotT (Cond.eq_ints h1 h5) h
  subst h6
  have h7 : (Term.length t).eval args s none [] s = if cl.slots.size < 2 ^ 31 then some (.int cl.slots.size.toInt32) else none := by simp [Term.eval, ev, ha]
  rw [h7] at h1
  by_cases q : cl.slots.size < 2 ^ 31
  · rw [if_pos q] at h1; exact ⟨q, by simpa using h1⟩
  · rw [if_neg q] at h1; cases h1
theorem own_el {args : Array Value} {s : State} {t u : Term} {j : Int32} {a r : Addr} {cl : Cell} (h : (Jvm.Cond.eq (.elem t (.int j)) u).value args s none s [] = some true) (ev : t.eval args s none [] s = some (.ref a)) (eu : u.eval args s none [] s = some (.ref r)) (hc : s.heap[a]? = some cl) : cl.slots[j.toNatClampNeg]? = some (.ref r) := by
  obtain ⟨x, y, h1, h2, h3, h4⟩ := cmp_v (Or.inl h)
  cases eu.symm.trans h2
  have hx : x.isRef = true := h4.2
  have h6 : x = .ref r := gotT (eq_R h1 h2 hx rfl) h
  subst h6
  exact (elem_in h1 ev (Term.int_eval j) hc).2
theorem d3_0 : decode prog_63_method_1_code 0 = .ok (.getstatic 16, 3) := by decide +kernel
theorem d3_3 : decode prog_63_method_1_code 3 = .ok (.invokevirtual 20, 3) := by decide +kernel
theorem d3_6 : decode prog_63_method_1_code 6 = .ok (.checkcast 21, 3) := by decide +kernel
theorem d3_9 : decode prog_63_method_1_code 9 = .ok (.areturn, 1) := by decide +kernel
theorem ef_rm3 (m : MethodId)  : entryFrame m #[] 0 = mkF m 0 #[] [] := by first | (simp [entryFrame, mkF, argsToLocals, Value.category, maxLocals]; done) | rfl
def Q_rm3 (Z : State) (rV : Addr) (kV : ClassId) (r_SECOND r_MINUTE r_HOUR r_DAY : Addr) (h0 : Heap) (n0 : Nat) (v : Option Value) (h : Heap) (L : List Loc) : Prop := Fr n0 L ∧ Old Z n0 h ∧ n0 ≤ h.size ∧ ∃ a, v = some (.ref a) ∧ Arv Z h a kV (.object "com/example/lubeck/lubeck/policy/DurationUnit") (4 : Int32) [(.ref r_SECOND), (.ref r_MINUTE), (.ref r_HOUR), (.ref r_DAY)] .null
set_option maxRecDepth 65536 in
set_option maxHeartbeats 40000000 in
theorem rm3 (l : Launch) (Z : State) (a0 : Array Value) (hw : ∀ d ∈ tables_1, d.before a0 Z = true) (ws : List Jvm.Cond) (rV : Addr) (kV : ClassId) (r_SECOND r_MINUTE r_HOUR r_DAY : Addr) (h0 : Heap) (n0 : Nat) (Z0 : n0 ≤ h0.size) (O : Old Z n0 h0) (SV : Sta Z Z.heap "com/example/lubeck/lubeck/policy/DurationUnit" "$VALUES" "[Lcom/example/lubeck/lubeck/policy/DurationUnit;" (.ref rV)) (AV : Arv Z Z.heap rV kV (.object "com/example/lubeck/lubeck/policy/DurationUnit") (4 : Int32) [(.ref r_SECOND), (.ref r_MINUTE), (.ref r_HOUR), (.ref r_DAY)] .null) (EV : Exa Z Z.heap rV "[Lcom/example/lubeck/lubeck/policy/DurationUnit;") :
    MetFree l (⟨"com/example/lubeck/lubeck/policy/DurationUnit", "values", "()[Lcom/example/lubeck/lubeck/policy/DurationUnit;"⟩ : MethodName) (head1 (Jvm.Cond.code (⟨"com/example/lubeck/lubeck/policy/DurationUnit", "values", "()[Lcom/example/lubeck/lubeck/policy/DurationUnit;"⟩ : MethodName) prog_63_method_1_code 0 (some (.array (.object "com/example/lubeck/lubeck/policy/DurationUnit"))) :: ws) ({ frames := 1, cells := 1, slots := 4, locals := 14 } : Room)) (fun as_ U_ => as_ = #[] ∧ Z.Warmed39 U_.vm ∧ U_.heap = h0) (fun _ _ _ _ _ => True) (fun _ U_ o_ U2_ => ∃ v_ L_, o_ = .returned v_ ∧ (Q_rm3 Z rV kV r_SECOND r_MINUTE r_HOUR r_DAY h0 n0) v_ U2_.heap L_ ∧ FrameEnd U_ o_ U2_ L_ ({ frames := 1, cells := 1, slots := 4, locals := 14 } : Room).cells ({ frames := 1, cells := 1, slots := 4, locals := 14 } : Room).slots) := by
  refine MetFree.of_bodySF (plainFor_of_name (by first | (simp [plainName, overriddenIn]; done) | decide +kernel : plainName "com/example/lubeck/lubeck/policy/DurationUnit" = true)) hisR ?_
  intro p e s m args below meth c s₁ Bd hml0 hP hK
  obtain ⟨rfl, hZ, hh⟩ := hP
  have hx := Bd.exec
  have hby := Bd.bytes
  have hlk := Bd.notSynchronized
  have hml : c.maxLocals = 0 := hml0
  have hown : s.vm.findClass "com/example/lubeck/lubeck/policy/DurationUnit" = some m.cls := findClass_of_methodNamed Bd.named
  have hnm := (name_of_methodNamed Bd.named Bd.method).1
  have X0 : Stand p l e ({ frames := 1, cells := 1, slots := 4, locals := 14 } : Room) s m #[] below meth c s₁ [] 0 0 := Stand.of_body Bd
  have e0 : s₁.heap = h0 := by rw [← hh, Bd.state]; rfl
  have N0 := Fr.nil n0
  show own_Go p e below (own_R s below (Q_rm3 Z rV kV r_SECOND r_MINUTE r_HOUR r_DAY h0 n0) ({ frames := 1, cells := 1, slots := 4, locals := 14 } : Room).cells ({ frames := 1, cells := 1, slots := 4, locals := 14 } : Room).slots) (s₁.setTop (entryFrame m #[] 0))
  refine own_bk (S' := (s₁.setTop (mkF m 0 #[] []))) (fun t_ kont => castTop (ef_rm3 m ) kont) ?_
  obtain ⟨T1, X2, e3, st4⟩ := getS2 X0 hx hZ hown (host := "") (Or.inl (hw _ (List.mem_of_getElem? (i := 13) rfl))) Via.refl e0 (SV.ext O.2) (g := (mkF m 0 #[] [])) rfl (hb hby d3_0)
  refine own_bk (S' := (T1.setTop (mkF m 3 #[] [(.ref rV)]))) st4 ?_
  obtain ⟨T5, h6, X7, e8, E9, A10, B11, st12⟩ := cloneH X2 hx hZ hown (hw _ (List.mem_of_getElem? (i := 15) rfl)) (hw _ (List.mem_of_getElem? (i := 16) rfl)) (hw _ (List.mem_of_getElem? (i := 20) rfl)) (hw _ (List.mem_of_getElem? (i := 18) rfl)) (hw _ (List.mem_of_getElem? (i := 19) rfl)) (hw _ (List.mem_of_getElem? (i := 21) rfl)) e3 ((AV.ext O.2).arh) (EV.ext O.2) (g := (mkF m 3 #[] [(.ref rV)])) rfl (by rw [hml]; rfl) rfl (hb hby d3_3) (by decide) (W := 0) (by show 2 * 0 + _ ≤ _; exact Nat.le_of_eq rfl) (by decide) (cap := 4) (by decide) (by decide) (by decide)
  obtain ⟨a13, g14⟩ : ∃ z, z = h0.size := ⟨_, rfl⟩
  rw [← g14] at A10 B11 st12
  have ag15 : n0 ≤ a13 := Nat.le_trans Z0 (Nat.le_of_eq g14.symm)
  have Z16 := Nat.le_trans Z0 E9.1
  have O17 := O.ext E9
  refine own_bk (S' := (T5.setTop (mkF m 6 #[] [(.ref a13)]))) st12 ?_
  obtain ⟨T18, X19, e20, st21⟩ := castY X7 hx hZ hown (hw _ (List.mem_of_getElem? (i := 26) rfl)) e8 (Ins.self B11) (g := (mkF m 6 #[] [(.ref a13)])) rfl rfl (hb hby d3_6)
  refine own_bk (S' := (T18.setTop (mkF m 9 #[] [(.ref a13)]))) st21 ?_
  exact own_retA X19 hx hlk Bd.returns rfl rfl rfl (hb hby d3_9) (by rw [e20]; exact ⟨N0, O17, Z16, _, rfl, A10⟩) (by decide) (by decide)
theorem d2_0 : decode prog_63_method_4_code 0 = .ok (.invokestatic 43, 3) := by decide +kernel
theorem d2_3 : decode prog_63_method_4_code 3 = .ok (.astore_n 1, 1) := by decide +kernel
theorem d2_4 : decode prog_63_method_4_code 4 = .ok (.aload_n 1, 1) := by decide +kernel
theorem d2_5 : decode prog_63_method_4_code 5 = .ok (.arraylength, 1) := by decide +kernel
theorem d2_6 : decode prog_63_method_4_code 6 = .ok (.istore_n 2, 1) := by decide +kernel
theorem d2_7 : decode prog_63_method_4_code 7 = .ok (.iconst 0, 1) := by decide +kernel
theorem d2_8 : decode prog_63_method_4_code 8 = .ok (.istore_n 3, 1) := by decide +kernel
theorem d2_9 : decode prog_63_method_4_code 9 = .ok (.iload_n 3, 1) := by decide +kernel
theorem d2_10 : decode prog_63_method_4_code 10 = .ok (.iload_n 2, 1) := by decide +kernel
theorem d2_11 : decode prog_63_method_4_code 11 = .ok (.if_icmp .ge 26, 3) := by decide +kernel
theorem d2_14 : decode prog_63_method_4_code 14 = .ok (.aload_n 1, 1) := by decide +kernel
theorem d2_15 : decode prog_63_method_4_code 15 = .ok (.iload_n 3, 1) := by decide +kernel
theorem d2_16 : decode prog_63_method_4_code 16 = .ok (.aaload, 1) := by decide +kernel
theorem d2_17 : decode prog_63_method_4_code 17 = .ok (.astore 4, 2) := by decide +kernel
theorem d2_19 : decode prog_63_method_4_code 19 = .ok (.aload 4, 2) := by decide +kernel
theorem d2_21 : decode prog_63_method_4_code 21 = .ok (.getfield 35, 3) := by decide +kernel
theorem d2_24 : decode prog_63_method_4_code 24 = .ok (.iload_n 0, 1) := by decide +kernel
theorem d2_25 : decode prog_63_method_4_code 25 = .ok (.if_icmp .ne 6, 3) := by decide +kernel
theorem d2_28 : decode prog_63_method_4_code 28 = .ok (.aload 4, 2) := by decide +kernel
theorem d2_30 : decode prog_63_method_4_code 30 = .ok (.areturn, 1) := by decide +kernel
theorem d2_31 : decode prog_63_method_4_code 31 = .ok (.iinc 3 1, 3) := by decide +kernel
theorem d2_34 : decode prog_63_method_4_code 34 = .ok (.goto (-25), 3) := by decide +kernel
theorem d2_37 : decode prog_63_method_4_code 37 = .ok (.aconst_null, 1) := by decide +kernel
theorem d2_38 : decode prog_63_method_4_code 38 = .ok (.areturn, 1) := by decide +kernel
theorem ef_rm2 (m : MethodId) (x0 : Int32) : entryFrame m #[(.int x0)] 5 = mkF m 0 #[.val (.int x0), .unset, .unset, .unset, .unset] [] := by first | (simp [entryFrame, mkF, argsToLocals, Value.category, maxLocals]; done) | rfl
def Q_rm2 (Z : State) (q : Int32) (rV : Addr) (kV : ClassId) (r_SECOND r_MINUTE r_HOUR r_DAY : Addr) (res : Value) (h0 : Heap) (n0 : Nat) (v : Option Value) (h : Heap) (L : List Loc) : Prop := v = some res ∧ Fr n0 L
set_option maxRecDepth 65536 in
set_option maxHeartbeats 40000000 in
theorem rm2 (l : Launch) (Z : State) (a0 : Array Value) (hw : ∀ d ∈ tables_1, d.before a0 Z = true) (ws : List Jvm.Cond) (q : Int32) (rV : Addr) (kV : ClassId) (r_SECOND r_MINUTE r_HOUR r_DAY : Addr) (res : Value) (h0 : Heap) (n0 : Nat) (Z0 : n0 ≤ h0.size) (O : Old Z n0 h0) (SV : Sta Z Z.heap "com/example/lubeck/lubeck/policy/DurationUnit" "$VALUES" "[Lcom/example/lubeck/lubeck/policy/DurationUnit;" (.ref rV)) (AV : Arv Z Z.heap rV kV (.object "com/example/lubeck/lubeck/policy/DurationUnit") (4 : Int32) [(.ref r_SECOND), (.ref r_MINUTE), (.ref r_HOUR), (.ref r_DAY)] .null) (EV : Exa Z Z.heap rV "[Lcom/example/lubeck/lubeck/policy/DurationUnit;") (F_SECOND : Fld Z Z.heap r_SECOND "com/example/lubeck/lubeck/policy/DurationUnit" "symbol" "C" (.int 115)) (F_MINUTE : Fld Z Z.heap r_MINUTE "com/example/lubeck/lubeck/policy/DurationUnit" "symbol" "C" (.int 109)) (F_HOUR : Fld Z Z.heap r_HOUR "com/example/lubeck/lubeck/policy/DurationUnit" "symbol" "C" (.int 104)) (F_DAY : Fld Z Z.heap r_DAY "com/example/lubeck/lubeck/policy/DurationUnit" "symbol" "C" (.int 100)) (hv : (if 115 = q then (.ref r_SECOND) else if 109 = q then (.ref r_MINUTE) else if 104 = q then (.ref r_HOUR) else if 100 = q then (.ref r_DAY) else .null : Value) = res) :
    MetFree l (⟨"com/example/lubeck/lubeck/policy/DurationUnit", "of", "(C)Lcom/example/lubeck/lubeck/policy/DurationUnit;"⟩ : MethodName) (head1 (Jvm.Cond.code (⟨"com/example/lubeck/lubeck/policy/DurationUnit", "of", "(C)Lcom/example/lubeck/lubeck/policy/DurationUnit;"⟩ : MethodName) prog_63_method_4_code 5 (some (.object "com/example/lubeck/lubeck/policy/DurationUnit")) :: ws) ({ frames := 2, cells := 1, slots := 4, locals := 40 } : Room)) (fun as_ U_ => as_ = #[(.int q)] ∧ Z.Warmed39 U_.vm ∧ U_.heap = h0) (fun _ _ _ _ _ => True) (fun _ U_ o_ U2_ => ∃ v_ L_, o_ = .returned v_ ∧ (Q_rm2 Z q rV kV r_SECOND r_MINUTE r_HOUR r_DAY res h0 n0) v_ U2_.heap L_ ∧ FrameEnd U_ o_ U2_ L_ ({ frames := 2, cells := 1, slots := 4, locals := 40 } : Room).cells ({ frames := 2, cells := 1, slots := 4, locals := 40 } : Room).slots) := by
  refine MetFree.of_bodySF (plainFor_of_name (by first | (simp [plainName, overriddenIn]; done) | decide +kernel : plainName "com/example/lubeck/lubeck/policy/DurationUnit" = true)) hisR ?_
  intro p e s m args below meth c s₁ Bd hml0 hP hK
  obtain ⟨rfl, hZ, hh⟩ := hP
  have hx := Bd.exec
  have hby := Bd.bytes
  have hlk := Bd.notSynchronized
  have hml : c.maxLocals = 5 := hml0
  have hown : s.vm.findClass "com/example/lubeck/lubeck/policy/DurationUnit" = some m.cls := findClass_of_methodNamed Bd.named
  have hnm := (name_of_methodNamed Bd.named Bd.method).1
  have X0 : Stand p l e ({ frames := 2, cells := 1, slots := 4, locals := 40 } : Room) s m #[(.int q)] below meth c s₁ [] 0 0 := Stand.of_body Bd
  have e0 : s₁.heap = h0 := by rw [← hh, Bd.state]; rfl
  have N0 := Fr.nil n0
  show own_Go p e below (own_R s below (Q_rm2 Z q rV kV r_SECOND r_MINUTE r_HOUR r_DAY res h0 n0) ({ frames := 2, cells := 1, slots := 4, locals := 40 } : Room).cells ({ frames := 2, cells := 1, slots := 4, locals := 40 } : Room).slots) (s₁.setTop (entryFrame m #[(.int q)] 5))
  refine own_bk (S' := (s₁.setTop (mkF m 0 #[iv q, .unset, .unset, .unset, .unset] []))) (fun t_ kont => castTop (ef_rm2 m (q)) kont) ?_
  obtain ⟨_, _, ⟨T1, L2, k3, n4⟩, -, X5, ⟨Lc6, hQ7, l8, y9, z10⟩, st11⟩ := Jvm.LawKit.callS X0 hx (y := (⟨"com/example/lubeck/lubeck/policy/DurationUnit", "values", "()[Lcom/example/lubeck/lubeck/policy/DurationUnit;"⟩ : MethodName)) hown (mvT hZ (hw _ (List.mem_of_getElem? (i := 10) rfl))) (mvT hZ (hw _ (List.mem_of_getElem? (i := 11) rfl))) (mvT hZ (hw _ (List.mem_of_getElem? (i := 5) rfl))) (mvT hZ (hw _ (List.mem_of_getElem? (i := 12) rfl))) (by decide) (backOf (W := 0) (rm3 l Z a0 hw [] rV kV r_SECOND r_MINUTE r_HOUR r_DAY h0 n0 Z0 O SV AV EV) hZ (hw _ (List.mem_of_getElem? (i := 12) rfl)) (hw _ (List.mem_of_getElem? (i := 5) rfl)) (by decide) (by decide)) (g := (mkF m 0 #[iv q, .unset, .unset, .unset, .unset] [])) rfl (by rw [hml]; rfl) (argsL := []) (rest := []) (lenOf (by decide +kernel : parseMethodDescriptor "()[Lcom/example/lubeck/lubeck/policy/DurationUnit;" = some ⟨[], some (.array (.object "com/example/lubeck/lubeck/policy/DurationUnit"))⟩) rfl) rfl (by show 2 * 0 + _ ≤ _; exact Nat.le_of_eq rfl) (hb hby d2_0) (fun _ _ => ⟨rfl, e0, (by decide : 0 + 1 ≤ _), (by decide : 0 + 4 ≤ _)⟩)
  dsimp only [Pt.U, Pt.locs, Pt.cells, Pt.slots] at X5 l8 y9 z10 st11 hQ7
  subst l8 y9 z10
  obtain ⟨N12, O_, Z_, a_, rfl, V_⟩ := hQ7
  have N14 := Fr.app N0 N12
  obtain ⟨cl, Ar, qr, Sr, Mr, Hr, Ur⟩ := V_
  refine own_bk (S' := (T1.setTop (mkF m 3 #[iv q, .unset, .unset, .unset, .unset] [(.ref a_)]))) st11 ?_
  refine own_bk (S' := (T1.setTop (mkF m 4 #[iv q, rv a_, .unset, .unset, .unset] []))) (fun t_ kont => XS.astoreN X5.here hx rfl (hb hby d2_3) rfl rfl (l' := #[iv q, rv a_, .unset, .unset, .unset]) rfl kont) ?_
  refine own_bk (S' := (T1.setTop (mkF m 5 #[iv q, rv a_, .unset, .unset, .unset] [(.ref a_)]))) (fun t_ kont => XS.aloadN X5.here hx rfl (hb hby d2_4) rfl rfl kont) ?_
  refine own_bk (S' := (T1.setTop (mkF m 6 #[iv q, rv a_, .unset, .unset, .unset] [(.int cl.slots.size.toInt32)]))) (fun t_ kont => X5.arraylength hx (cell := cl) (by rw [show T1.heap = T1.heap from rfl]; exact Ar.1) (State.isArrayOf_alike hZ.alike Ar.2.1) (g := (mkF m 5 #[iv q, rv a_, .unset, .unset, .unset] [(.ref a_)])) rfl rfl (hb hby d2_5) _ kont) ?_
  rw [len_of Sr Mr]
  refine own_bk (S' := (T1.setTop (mkF m 7 #[iv q, rv a_, iv (4 : Int32), .unset, .unset] []))) (fun t_ kont => XS.istoreN X5.here hx rfl (hb hby d2_6) rfl (l' := #[iv q, rv a_, iv (4 : Int32), .unset, .unset]) rfl kont) ?_
  refine own_bk (S' := (T1.setTop (mkF m 8 #[iv q, rv a_, iv (4 : Int32), .unset, .unset] [(.int (0 : Int32))]))) (fun t_ kont => XS.iconst X5.here hx rfl (hb hby d2_7) kont) ?_
  refine own_bk (S' := (T1.setTop (mkF m 9 #[iv q, rv a_, iv (4 : Int32), iv (0 : Int32), .unset] []))) (fun t_ kont => XS.istoreN X5.here hx rfl (hb hby d2_8) rfl (l' := #[iv q, rv a_, iv (4 : Int32), iv (0 : Int32), .unset]) rfl kont) ?_
  refine own_bk (S' := (T1.setTop (mkF m 10 #[iv q, rv a_, iv (4 : Int32), iv (0 : Int32), .unset] [(.int (0 : Int32))]))) (fun t_ kont => XS.iloadN X5.here hx rfl (hb hby d2_9) rfl kont) ?_
  refine own_bk (S' := (T1.setTop (mkF m 11 #[iv q, rv a_, iv (4 : Int32), iv (0 : Int32), .unset] [(.int (4 : Int32)), (.int (0 : Int32))]))) (fun t_ kont => XS.iloadN X5.here hx rfl (hb hby d2_10) rfl kont) ?_
  refine own_bk (S' := (T1.setTop (mkF m 14 #[iv q, rv a_, iv (4 : Int32), iv (0 : Int32), .unset] []))) (fun t_ kont => XS.icmpNo X5.here hx rfl (hb hby d2_11) rfl (tlt (by decide : ((0 : Int32)) < ((4 : Int32)))).2.1 kont) ?_
  refine own_bk (S' := (T1.setTop (mkF m 15 #[iv q, rv a_, iv (4 : Int32), iv (0 : Int32), .unset] [(.ref a_)]))) (fun t_ kont => XS.aloadN X5.here hx rfl (hb hby d2_14) rfl rfl kont) ?_
  refine own_bk (S' := (T1.setTop (mkF m 16 #[iv q, rv a_, iv (4 : Int32), iv (0 : Int32), .unset] [(.int (0 : Int32)), (.ref a_)]))) (fun t_ kont => XS.iloadN X5.here hx rfl (hb hby d2_15) rfl kont) ?_
  have in15 := inb_of (j := (0 : Int32)) Sr ⟨(by decide : ¬ ((0 : Int32) < (0 : Int32))), (by decide : (0 : Int32) < (4 : Int32))⟩
  refine own_bk (S' := (T1.setTop (mkF m 17 #[iv q, rv a_, iv (4 : Int32), iv (0 : Int32), .unset] [(.ref r_SECOND)]))) (fun t_ kont => X5.aaload hx (j := (0 : Int32)) (v := (.ref r_SECOND)) (by rw [show T1.heap = T1.heap from rfl]; exact Ar.1) (State.isArrayOf_alike hZ.alike Ar.2.1) rfl Ar.2.2 in15 (Has.at Hr in15 rfl) (g := (mkF m 16 #[iv q, rv a_, iv (4 : Int32), iv (0 : Int32), .unset] [(.int (0 : Int32)), (.ref a_)])) rfl rfl (hb hby d2_16) _ kont) ?_
  refine own_bk (S' := (T1.setTop (mkF m 19 #[iv q, rv a_, iv (4 : Int32), iv (0 : Int32), rv r_SECOND] []))) (fun t_ kont => XS.astore X5.here hx rfl (hb hby d2_17) rfl rfl (l' := #[iv q, rv a_, iv (4 : Int32), iv (0 : Int32), rv r_SECOND]) rfl kont) ?_
  refine own_bk (S' := (T1.setTop (mkF m 21 #[iv q, rv a_, iv (4 : Int32), iv (0 : Int32), rv r_SECOND] [(.ref r_SECOND)]))) (fun t_ kont => XS.aload X5.here hx rfl (hb hby d2_19) rfl rfl kont) ?_
  obtain ⟨T16, X17, e18, st19⟩ := getF X5 hx hZ hown (host := "") (Or.inl (hw _ (List.mem_of_getElem? (i := 28) rfl))) Via.refl rfl (F_SECOND.ext O_.2) (g := (mkF m 21 #[iv q, rv a_, iv (4 : Int32), iv (0 : Int32), rv r_SECOND] [(.ref r_SECOND)])) rfl rfl (hb hby d2_21)
  refine own_bk (S' := (T16.setTop (mkF m 24 #[iv q, rv a_, iv (4 : Int32), iv (0 : Int32), rv r_SECOND] [(.int (115 : Int32))]))) st19 ?_
  refine own_bk (S' := (T16.setTop (mkF m 25 #[iv q, rv a_, iv (4 : Int32), iv (0 : Int32), rv r_SECOND] [(.int q), (.int (115 : Int32))]))) (fun t_ kont => XS.iloadN X17.here hx rfl (hb hby d2_24) rfl kont) ?_
  by_cases hc20 : ((115 : Int32)) = (q)
  · refine own_bk (S' := (T16.setTop (mkF m 28 #[iv q, rv a_, iv (4 : Int32), iv (0 : Int32), rv r_SECOND] []))) (fun t_ kont => XS.icmpNo X17.here hx rfl (hb hby d2_25) rfl (teq (hc20)).2 kont) ?_
    refine own_bk (S' := (T16.setTop (mkF m 30 #[iv q, rv a_, iv (4 : Int32), iv (0 : Int32), rv r_SECOND] [(.ref r_SECOND)]))) (fun t_ kont => XS.aload X17.here hx rfl (hb hby d2_28) rfl rfl kont) ?_
    exact own_retA X17 hx hlk Bd.returns rfl rfl rfl (hb hby d2_30) ⟨by rw [← hv]; simp [hc20], N14⟩ (by decide) (by decide)
  · refine own_bk (S' := (T16.setTop (mkF m 31 #[iv q, rv a_, iv (4 : Int32), iv (0 : Int32), rv r_SECOND] []))) (fun t_ kont => XS.icmpYes X17.here hx rfl (pc0 := 25) (pc' := 31) rfl (hb hby d2_25) rfl (feq (hc20)).2 (by decide) (by decide) kont) ?_
    refine own_bk (S' := (T16.setTop (mkF m 34 #[iv q, rv a_, iv (4 : Int32), iv (1 : Int32), rv r_SECOND] []))) (fun t_ kont => XS.iinc X17.here hx rfl (hb hby d2_31) rfl (l' := #[iv q, rv a_, iv (4 : Int32), iv (1 : Int32), rv r_SECOND]) rfl kont) ?_
    refine own_bk (S' := (T16.setTop (mkF m 9 #[iv q, rv a_, iv (4 : Int32), iv (1 : Int32), rv r_SECOND] []))) (fun t_ kont => XS.goto X17.here hx rfl (pc0 := 34) (pc' := 9) rfl (hb hby d2_34) (by decide) (by decide) kont) ?_
    refine own_bk (S' := (T16.setTop (mkF m 10 #[iv q, rv a_, iv (4 : Int32), iv (1 : Int32), rv r_SECOND] [(.int (1 : Int32))]))) (fun t_ kont => XS.iloadN X17.here hx rfl (hb hby d2_9) rfl kont) ?_
    refine own_bk (S' := (T16.setTop (mkF m 11 #[iv q, rv a_, iv (4 : Int32), iv (1 : Int32), rv r_SECOND] [(.int (4 : Int32)), (.int (1 : Int32))]))) (fun t_ kont => XS.iloadN X17.here hx rfl (hb hby d2_10) rfl kont) ?_
    refine own_bk (S' := (T16.setTop (mkF m 14 #[iv q, rv a_, iv (4 : Int32), iv (1 : Int32), rv r_SECOND] []))) (fun t_ kont => XS.icmpNo X17.here hx rfl (hb hby d2_11) rfl (tlt (by decide : ((1 : Int32)) < ((4 : Int32)))).2.1 kont) ?_
    refine own_bk (S' := (T16.setTop (mkF m 15 #[iv q, rv a_, iv (4 : Int32), iv (1 : Int32), rv r_SECOND] [(.ref a_)]))) (fun t_ kont => XS.aloadN X17.here hx rfl (hb hby d2_14) rfl rfl kont) ?_
    refine own_bk (S' := (T16.setTop (mkF m 16 #[iv q, rv a_, iv (4 : Int32), iv (1 : Int32), rv r_SECOND] [(.int (1 : Int32)), (.ref a_)]))) (fun t_ kont => XS.iloadN X17.here hx rfl (hb hby d2_15) rfl kont) ?_
    have in21 := inb_of (j := (1 : Int32)) Sr ⟨(by decide : ¬ ((1 : Int32) < (0 : Int32))), (by decide : (1 : Int32) < (4 : Int32))⟩
    refine own_bk (S' := (T16.setTop (mkF m 17 #[iv q, rv a_, iv (4 : Int32), iv (1 : Int32), rv r_SECOND] [(.ref r_MINUTE)]))) (fun t_ kont => X17.aaload hx (j := (1 : Int32)) (v := (.ref r_MINUTE)) (by rw [show T16.heap = T1.heap from e18]; exact Ar.1) (State.isArrayOf_alike hZ.alike Ar.2.1) rfl Ar.2.2 in21 (Has.at Hr in21 rfl) (g := (mkF m 16 #[iv q, rv a_, iv (4 : Int32), iv (1 : Int32), rv r_SECOND] [(.int (1 : Int32)), (.ref a_)])) rfl rfl (hb hby d2_16) _ kont) ?_
    refine own_bk (S' := (T16.setTop (mkF m 19 #[iv q, rv a_, iv (4 : Int32), iv (1 : Int32), rv r_MINUTE] []))) (fun t_ kont => XS.astore X17.here hx rfl (hb hby d2_17) rfl rfl (l' := #[iv q, rv a_, iv (4 : Int32), iv (1 : Int32), rv r_MINUTE]) rfl kont) ?_
    refine own_bk (S' := (T16.setTop (mkF m 21 #[iv q, rv a_, iv (4 : Int32), iv (1 : Int32), rv r_MINUTE] [(.ref r_MINUTE)]))) (fun t_ kont => XS.aload X17.here hx rfl (hb hby d2_19) rfl rfl kont) ?_
    obtain ⟨T22, X23, e24, st25⟩ := getF X17 hx hZ hown (host := "") (Or.inl (hw _ (List.mem_of_getElem? (i := 28) rfl))) Via.refl e18 (F_MINUTE.ext O_.2) (g := (mkF m 21 #[iv q, rv a_, iv (4 : Int32), iv (1 : Int32), rv r_MINUTE] [(.ref r_MINUTE)])) rfl rfl (hb hby d2_21)
    refine own_bk (S' := (T22.setTop (mkF m 24 #[iv q, rv a_, iv (4 : Int32), iv (1 : Int32), rv r_MINUTE] [(.int (109 : Int32))]))) st25 ?_
    refine own_bk (S' := (T22.setTop (mkF m 25 #[iv q, rv a_, iv (4 : Int32), iv (1 : Int32), rv r_MINUTE] [(.int q), (.int (109 : Int32))]))) (fun t_ kont => XS.iloadN X23.here hx rfl (hb hby d2_24) rfl kont) ?_
    by_cases hc26 : ((109 : Int32)) = (q)
    · refine own_bk (S' := (T22.setTop (mkF m 28 #[iv q, rv a_, iv (4 : Int32), iv (1 : Int32), rv r_MINUTE] []))) (fun t_ kont => XS.icmpNo X23.here hx rfl (hb hby d2_25) rfl (teq (hc26)).2 kont) ?_
      refine own_bk (S' := (T22.setTop (mkF m 30 #[iv q, rv a_, iv (4 : Int32), iv (1 : Int32), rv r_MINUTE] [(.ref r_MINUTE)]))) (fun t_ kont => XS.aload X23.here hx rfl (hb hby d2_28) rfl rfl kont) ?_
      exact own_retA X23 hx hlk Bd.returns rfl rfl rfl (hb hby d2_30) ⟨by rw [← hv]; simp [hc20, hc26], N14⟩ (by decide) (by decide)
    · refine own_bk (S' := (T22.setTop (mkF m 31 #[iv q, rv a_, iv (4 : Int32), iv (1 : Int32), rv r_MINUTE] []))) (fun t_ kont => XS.icmpYes X23.here hx rfl (pc0 := 25) (pc' := 31) rfl (hb hby d2_25) rfl (feq (hc26)).2 (by decide) (by decide) kont) ?_
      refine own_bk (S' := (T22.setTop (mkF m 34 #[iv q, rv a_, iv (4 : Int32), iv (2 : Int32), rv r_MINUTE] []))) (fun t_ kont => XS.iinc X23.here hx rfl (hb hby d2_31) rfl (l' := #[iv q, rv a_, iv (4 : Int32), iv (2 : Int32), rv r_MINUTE]) rfl kont) ?_
      refine own_bk (S' := (T22.setTop (mkF m 9 #[iv q, rv a_, iv (4 : Int32), iv (2 : Int32), rv r_MINUTE] []))) (fun t_ kont => XS.goto X23.here hx rfl (pc0 := 34) (pc' := 9) rfl (hb hby d2_34) (by decide) (by decide) kont) ?_
      refine own_bk (S' := (T22.setTop (mkF m 10 #[iv q, rv a_, iv (4 : Int32), iv (2 : Int32), rv r_MINUTE] [(.int (2 : Int32))]))) (fun t_ kont => XS.iloadN X23.here hx rfl (hb hby d2_9) rfl kont) ?_
      refine own_bk (S' := (T22.setTop (mkF m 11 #[iv q, rv a_, iv (4 : Int32), iv (2 : Int32), rv r_MINUTE] [(.int (4 : Int32)), (.int (2 : Int32))]))) (fun t_ kont => XS.iloadN X23.here hx rfl (hb hby d2_10) rfl kont) ?_
      refine own_bk (S' := (T22.setTop (mkF m 14 #[iv q, rv a_, iv (4 : Int32), iv (2 : Int32), rv r_MINUTE] []))) (fun t_ kont => XS.icmpNo X23.here hx rfl (hb hby d2_11) rfl (tlt (by decide : ((2 : Int32)) < ((4 : Int32)))).2.1 kont) ?_
      refine own_bk (S' := (T22.setTop (mkF m 15 #[iv q, rv a_, iv (4 : Int32), iv (2 : Int32), rv r_MINUTE] [(.ref a_)]))) (fun t_ kont => XS.aloadN X23.here hx rfl (hb hby d2_14) rfl rfl kont) ?_
      refine own_bk (S' := (T22.setTop (mkF m 16 #[iv q, rv a_, iv (4 : Int32), iv (2 : Int32), rv r_MINUTE] [(.int (2 : Int32)), (.ref a_)]))) (fun t_ kont => XS.iloadN X23.here hx rfl (hb hby d2_15) rfl kont) ?_
      have in27 := inb_of (j := (2 : Int32)) Sr ⟨(by decide : ¬ ((2 : Int32) < (0 : Int32))), (by decide : (2 : Int32) < (4 : Int32))⟩
      refine own_bk (S' := (T22.setTop (mkF m 17 #[iv q, rv a_, iv (4 : Int32), iv (2 : Int32), rv r_MINUTE] [(.ref r_HOUR)]))) (fun t_ kont => X23.aaload hx (j := (2 : Int32)) (v := (.ref r_HOUR)) (by rw [show T22.heap = T1.heap from e24]; exact Ar.1) (State.isArrayOf_alike hZ.alike Ar.2.1) rfl Ar.2.2 in27 (Has.at Hr in27 rfl) (g := (mkF m 16 #[iv q, rv a_, iv (4 : Int32), iv (2 : Int32), rv r_MINUTE] [(.int (2 : Int32)), (.ref a_)])) rfl rfl (hb hby d2_16) _ kont) ?_
      refine own_bk (S' := (T22.setTop (mkF m 19 #[iv q, rv a_, iv (4 : Int32), iv (2 : Int32), rv r_HOUR] []))) (fun t_ kont => XS.astore X23.here hx rfl (hb hby d2_17) rfl rfl (l' := #[iv q, rv a_, iv (4 : Int32), iv (2 : Int32), rv r_HOUR]) rfl kont) ?_
      refine own_bk (S' := (T22.setTop (mkF m 21 #[iv q, rv a_, iv (4 : Int32), iv (2 : Int32), rv r_HOUR] [(.ref r_HOUR)]))) (fun t_ kont => XS.aload X23.here hx rfl (hb hby d2_19) rfl rfl kont) ?_
      obtain ⟨T28, X29, e30, st31⟩ := getF X23 hx hZ hown (host := "") (Or.inl (hw _ (List.mem_of_getElem? (i := 28) rfl))) Via.refl e24 (F_HOUR.ext O_.2) (g := (mkF m 21 #[iv q, rv a_, iv (4 : Int32), iv (2 : Int32), rv r_HOUR] [(.ref r_HOUR)])) rfl rfl (hb hby d2_21)
      refine own_bk (S' := (T28.setTop (mkF m 24 #[iv q, rv a_, iv (4 : Int32), iv (2 : Int32), rv r_HOUR] [(.int (104 : Int32))]))) st31 ?_
      refine own_bk (S' := (T28.setTop (mkF m 25 #[iv q, rv a_, iv (4 : Int32), iv (2 : Int32), rv r_HOUR] [(.int q), (.int (104 : Int32))]))) (fun t_ kont => XS.iloadN X29.here hx rfl (hb hby d2_24) rfl kont) ?_
      by_cases hc32 : ((104 : Int32)) = (q)
      · refine own_bk (S' := (T28.setTop (mkF m 28 #[iv q, rv a_, iv (4 : Int32), iv (2 : Int32), rv r_HOUR] []))) (fun t_ kont => XS.icmpNo X29.here hx rfl (hb hby d2_25) rfl (teq (hc32)).2 kont) ?_
        refine own_bk (S' := (T28.setTop (mkF m 30 #[iv q, rv a_, iv (4 : Int32), iv (2 : Int32), rv r_HOUR] [(.ref r_HOUR)]))) (fun t_ kont => XS.aload X29.here hx rfl (hb hby d2_28) rfl rfl kont) ?_
        exact own_retA X29 hx hlk Bd.returns rfl rfl rfl (hb hby d2_30) ⟨by rw [← hv]; simp [hc20, hc26, hc32], N14⟩ (by decide) (by decide)
      · refine own_bk (S' := (T28.setTop (mkF m 31 #[iv q, rv a_, iv (4 : Int32), iv (2 : Int32), rv r_HOUR] []))) (fun t_ kont => XS.icmpYes X29.here hx rfl (pc0 := 25) (pc' := 31) rfl (hb hby d2_25) rfl (feq (hc32)).2 (by decide) (by decide) kont) ?_
        refine own_bk (S' := (T28.setTop (mkF m 34 #[iv q, rv a_, iv (4 : Int32), iv (3 : Int32), rv r_HOUR] []))) (fun t_ kont => XS.iinc X29.here hx rfl (hb hby d2_31) rfl (l' := #[iv q, rv a_, iv (4 : Int32), iv (3 : Int32), rv r_HOUR]) rfl kont) ?_
        refine own_bk (S' := (T28.setTop (mkF m 9 #[iv q, rv a_, iv (4 : Int32), iv (3 : Int32), rv r_HOUR] []))) (fun t_ kont => XS.goto X29.here hx rfl (pc0 := 34) (pc' := 9) rfl (hb hby d2_34) (by decide) (by decide) kont) ?_
        refine own_bk (S' := (T28.setTop (mkF m 10 #[iv q, rv a_, iv (4 : Int32), iv (3 : Int32), rv r_HOUR] [(.int (3 : Int32))]))) (fun t_ kont => XS.iloadN X29.here hx rfl (hb hby d2_9) rfl kont) ?_
        refine own_bk (S' := (T28.setTop (mkF m 11 #[iv q, rv a_, iv (4 : Int32), iv (3 : Int32), rv r_HOUR] [(.int (4 : Int32)), (.int (3 : Int32))]))) (fun t_ kont => XS.iloadN X29.here hx rfl (hb hby d2_10) rfl kont) ?_
        refine own_bk (S' := (T28.setTop (mkF m 14 #[iv q, rv a_, iv (4 : Int32), iv (3 : Int32), rv r_HOUR] []))) (fun t_ kont => XS.icmpNo X29.here hx rfl (hb hby d2_11) rfl (tlt (by decide : ((3 : Int32)) < ((4 : Int32)))).2.1 kont) ?_
        refine own_bk (S' := (T28.setTop (mkF m 15 #[iv q, rv a_, iv (4 : Int32), iv (3 : Int32), rv r_HOUR] [(.ref a_)]))) (fun t_ kont => XS.aloadN X29.here hx rfl (hb hby d2_14) rfl rfl kont) ?_
        refine own_bk (S' := (T28.setTop (mkF m 16 #[iv q, rv a_, iv (4 : Int32), iv (3 : Int32), rv r_HOUR] [(.int (3 : Int32)), (.ref a_)]))) (fun t_ kont => XS.iloadN X29.here hx rfl (hb hby d2_15) rfl kont) ?_
        have in33 := inb_of (j := (3 : Int32)) Sr ⟨(by decide : ¬ ((3 : Int32) < (0 : Int32))), (by decide : (3 : Int32) < (4 : Int32))⟩
        refine own_bk (S' := (T28.setTop (mkF m 17 #[iv q, rv a_, iv (4 : Int32), iv (3 : Int32), rv r_HOUR] [(.ref r_DAY)]))) (fun t_ kont => X29.aaload hx (j := (3 : Int32)) (v := (.ref r_DAY)) (by rw [show T28.heap = T1.heap from e30]; exact Ar.1) (State.isArrayOf_alike hZ.alike Ar.2.1) rfl Ar.2.2 in33 (Has.at Hr in33 rfl) (g := (mkF m 16 #[iv q, rv a_, iv (4 : Int32), iv (3 : Int32), rv r_HOUR] [(.int (3 : Int32)), (.ref a_)])) rfl rfl (hb hby d2_16) _ kont) ?_
        refine own_bk (S' := (T28.setTop (mkF m 19 #[iv q, rv a_, iv (4 : Int32), iv (3 : Int32), rv r_DAY] []))) (fun t_ kont => XS.astore X29.here hx rfl (hb hby d2_17) rfl rfl (l' := #[iv q, rv a_, iv (4 : Int32), iv (3 : Int32), rv r_DAY]) rfl kont) ?_
        refine own_bk (S' := (T28.setTop (mkF m 21 #[iv q, rv a_, iv (4 : Int32), iv (3 : Int32), rv r_DAY] [(.ref r_DAY)]))) (fun t_ kont => XS.aload X29.here hx rfl (hb hby d2_19) rfl rfl kont) ?_
        obtain ⟨T34, X35, e36, st37⟩ := getF X29 hx hZ hown (host := "") (Or.inl (hw _ (List.mem_of_getElem? (i := 28) rfl))) Via.refl e30 (F_DAY.ext O_.2) (g := (mkF m 21 #[iv q, rv a_, iv (4 : Int32), iv (3 : Int32), rv r_DAY] [(.ref r_DAY)])) rfl rfl (hb hby d2_21)
        refine own_bk (S' := (T34.setTop (mkF m 24 #[iv q, rv a_, iv (4 : Int32), iv (3 : Int32), rv r_DAY] [(.int (100 : Int32))]))) st37 ?_
        refine own_bk (S' := (T34.setTop (mkF m 25 #[iv q, rv a_, iv (4 : Int32), iv (3 : Int32), rv r_DAY] [(.int q), (.int (100 : Int32))]))) (fun t_ kont => XS.iloadN X35.here hx rfl (hb hby d2_24) rfl kont) ?_
        by_cases hc38 : ((100 : Int32)) = (q)
        · refine own_bk (S' := (T34.setTop (mkF m 28 #[iv q, rv a_, iv (4 : Int32), iv (3 : Int32), rv r_DAY] []))) (fun t_ kont => XS.icmpNo X35.here hx rfl (hb hby d2_25) rfl (teq (hc38)).2 kont) ?_
          refine own_bk (S' := (T34.setTop (mkF m 30 #[iv q, rv a_, iv (4 : Int32), iv (3 : Int32), rv r_DAY] [(.ref r_DAY)]))) (fun t_ kont => XS.aload X35.here hx rfl (hb hby d2_28) rfl rfl kont) ?_
          exact own_retA X35 hx hlk Bd.returns rfl rfl rfl (hb hby d2_30) ⟨by rw [← hv]; simp [hc20, hc26, hc32, hc38], N14⟩ (by decide) (by decide)
        · refine own_bk (S' := (T34.setTop (mkF m 31 #[iv q, rv a_, iv (4 : Int32), iv (3 : Int32), rv r_DAY] []))) (fun t_ kont => XS.icmpYes X35.here hx rfl (pc0 := 25) (pc' := 31) rfl (hb hby d2_25) rfl (feq (hc38)).2 (by decide) (by decide) kont) ?_
          refine own_bk (S' := (T34.setTop (mkF m 34 #[iv q, rv a_, iv (4 : Int32), iv (4 : Int32), rv r_DAY] []))) (fun t_ kont => XS.iinc X35.here hx rfl (hb hby d2_31) rfl (l' := #[iv q, rv a_, iv (4 : Int32), iv (4 : Int32), rv r_DAY]) rfl kont) ?_
          refine own_bk (S' := (T34.setTop (mkF m 9 #[iv q, rv a_, iv (4 : Int32), iv (4 : Int32), rv r_DAY] []))) (fun t_ kont => XS.goto X35.here hx rfl (pc0 := 34) (pc' := 9) rfl (hb hby d2_34) (by decide) (by decide) kont) ?_
          refine own_bk (S' := (T34.setTop (mkF m 10 #[iv q, rv a_, iv (4 : Int32), iv (4 : Int32), rv r_DAY] [(.int (4 : Int32))]))) (fun t_ kont => XS.iloadN X35.here hx rfl (hb hby d2_9) rfl kont) ?_
          refine own_bk (S' := (T34.setTop (mkF m 11 #[iv q, rv a_, iv (4 : Int32), iv (4 : Int32), rv r_DAY] [(.int (4 : Int32)), (.int (4 : Int32))]))) (fun t_ kont => XS.iloadN X35.here hx rfl (hb hby d2_10) rfl kont) ?_
          refine own_bk (S' := (T34.setTop (mkF m 37 #[iv q, rv a_, iv (4 : Int32), iv (4 : Int32), rv r_DAY] []))) (fun t_ kont => XS.icmpYes X35.here hx rfl (pc0 := 11) (pc' := 37) rfl (hb hby d2_11) rfl (flt (by decide : ¬ ((4 : Int32)) < ((4 : Int32)))).2.1 (by decide) (by decide) kont) ?_
          refine own_bk (S' := (T34.setTop (mkF m 38 #[iv q, rv a_, iv (4 : Int32), iv (4 : Int32), rv r_DAY] [.null]))) (fun t_ kont => XS.aconstNull X35.here hx rfl (hb hby d2_37) kont) ?_
          exact own_retA X35 hx hlk Bd.returns rfl rfl rfl (hb hby d2_38) ⟨by rw [← hv]; simp [hc20, hc26, hc32, hc38], N14⟩ (by decide) (by decide)
theorem d1_0 : decode method_3_code 0 = .ok (.iload_n 0, 1) := by decide +kernel
theorem d1_1 : decode method_3_code 1 = .ok (.bipush 115, 2) := by decide +kernel
theorem d1_3 : decode method_3_code 3 = .ok (.if_icmp .ne 7, 3) := by decide +kernel
theorem d1_6 : decode method_3_code 6 = .ok (.getstatic 19, 3) := by decide +kernel
theorem d1_9 : decode method_3_code 9 = .ok (.areturn, 1) := by decide +kernel
theorem d1_10 : decode method_3_code 10 = .ok (.iload_n 0, 1) := by decide +kernel
theorem d1_11 : decode method_3_code 11 = .ok (.bipush 109, 2) := by decide +kernel
theorem d1_13 : decode method_3_code 13 = .ok (.if_icmp .ne 7, 3) := by decide +kernel
theorem d1_16 : decode method_3_code 16 = .ok (.getstatic 23, 3) := by decide +kernel
theorem d1_19 : decode method_3_code 19 = .ok (.areturn, 1) := by decide +kernel
theorem d1_20 : decode method_3_code 20 = .ok (.iload_n 0, 1) := by decide +kernel
theorem d1_21 : decode method_3_code 21 = .ok (.bipush 104, 2) := by decide +kernel
theorem d1_23 : decode method_3_code 23 = .ok (.if_icmp .ne 7, 3) := by decide +kernel
theorem d1_26 : decode method_3_code 26 = .ok (.getstatic 26, 3) := by decide +kernel
theorem d1_29 : decode method_3_code 29 = .ok (.areturn, 1) := by decide +kernel
theorem d1_30 : decode method_3_code 30 = .ok (.iload_n 0, 1) := by decide +kernel
theorem d1_31 : decode method_3_code 31 = .ok (.bipush 100, 2) := by decide +kernel
theorem d1_33 : decode method_3_code 33 = .ok (.if_icmp .ne 7, 3) := by decide +kernel
theorem d1_36 : decode method_3_code 36 = .ok (.getstatic 29, 3) := by decide +kernel
theorem d1_39 : decode method_3_code 39 = .ok (.areturn, 1) := by decide +kernel
theorem d1_40 : decode method_3_code 40 = .ok (.aconst_null, 1) := by decide +kernel
theorem d1_41 : decode method_3_code 41 = .ok (.areturn, 1) := by decide +kernel
theorem ef_rm1 (m : MethodId) (x0 : Int32) : entryFrame m #[(.int x0)] 1 = mkF m 0 #[.val (.int x0)] [] := by first | (simp [entryFrame, mkF, argsToLocals, Value.category, maxLocals]; done) | rfl
def Q_rm1 (Z : State) (q : Int32) (r_SECOND r_MINUTE r_HOUR r_DAY : Addr) (res : Value) (h0 : Heap) (n0 : Nat) (v : Option Value) (h : Heap) (L : List Loc) : Prop := v = some res ∧ Fr n0 L ∧ h = h0
set_option maxRecDepth 65536 in
set_option maxHeartbeats 40000000 in
theorem rm1 (l : Launch) (Z : State) (a0 : Array Value) (hw : ∀ d ∈ tables_1, d.before a0 Z = true) (ws : List Jvm.Cond) (q : Int32) (r_SECOND r_MINUTE r_HOUR r_DAY : Addr) (res : Value) (h0 : Heap) (n0 : Nat) (Z0 : n0 ≤ h0.size) (S_SECOND : Sta Z h0 "com/example/lubeck/lubeck/policy/DurationUnit" "SECOND" "Lcom/example/lubeck/lubeck/policy/DurationUnit;" (.ref r_SECOND)) (S_MINUTE : Sta Z h0 "com/example/lubeck/lubeck/policy/DurationUnit" "MINUTE" "Lcom/example/lubeck/lubeck/policy/DurationUnit;" (.ref r_MINUTE)) (S_HOUR : Sta Z h0 "com/example/lubeck/lubeck/policy/DurationUnit" "HOUR" "Lcom/example/lubeck/lubeck/policy/DurationUnit;" (.ref r_HOUR)) (S_DAY : Sta Z h0 "com/example/lubeck/lubeck/policy/DurationUnit" "DAY" "Lcom/example/lubeck/lubeck/policy/DurationUnit;" (.ref r_DAY)) (hv : (if q = 115 then (.ref r_SECOND) else if q = 109 then (.ref r_MINUTE) else if q = 104 then (.ref r_HOUR) else if q = 100 then (.ref r_DAY) else .null : Value) = res) :
    MetFree l (⟨"com/example/lubeck/lubeck/policy/DurationUnitOfPinLaw", "expectedOf", "(C)Lcom/example/lubeck/lubeck/policy/DurationUnit;"⟩ : MethodName) (head1 (Jvm.Cond.code (⟨"com/example/lubeck/lubeck/policy/DurationUnitOfPinLaw", "expectedOf", "(C)Lcom/example/lubeck/lubeck/policy/DurationUnit;"⟩ : MethodName) method_3_code 1 (some (.object "com/example/lubeck/lubeck/policy/DurationUnit")) :: ws) ({ frames := 0, cells := 0, slots := 0, locals := 0 } : Room)) (fun as_ U_ => as_ = #[(.int q)] ∧ Z.Warmed39 U_.vm ∧ U_.heap = h0) (fun _ _ _ _ _ => True) (fun _ U_ o_ U2_ => ∃ v_ L_, o_ = .returned v_ ∧ (Q_rm1 Z q r_SECOND r_MINUTE r_HOUR r_DAY res h0 n0) v_ U2_.heap L_ ∧ FrameEnd U_ o_ U2_ L_ ({ frames := 0, cells := 0, slots := 0, locals := 0 } : Room).cells ({ frames := 0, cells := 0, slots := 0, locals := 0 } : Room).slots) := by
  refine MetFree.of_bodySF (plainFor_of_name (by first | (simp [plainName, overriddenIn]; done) | decide +kernel : plainName "com/example/lubeck/lubeck/policy/DurationUnitOfPinLaw" = true)) hisR ?_
  intro p e s m args below meth c s₁ Bd hml0 hP hK
  obtain ⟨rfl, hZ, hh⟩ := hP
  have hx := Bd.exec
  have hby := Bd.bytes
  have hlk := Bd.notSynchronized
  have hml : c.maxLocals = 1 := hml0
  have hown : s.vm.findClass "com/example/lubeck/lubeck/policy/DurationUnitOfPinLaw" = some m.cls := findClass_of_methodNamed Bd.named
  have hnm := (name_of_methodNamed Bd.named Bd.method).1
  have X0 : Stand p l e ({ frames := 0, cells := 0, slots := 0, locals := 0 } : Room) s m #[(.int q)] below meth c s₁ [] 0 0 := Stand.of_body Bd
  have e0 : s₁.heap = h0 := by rw [← hh, Bd.state]; rfl
  have N0 := Fr.nil n0
  show own_Go p e below (own_R s below (Q_rm1 Z q r_SECOND r_MINUTE r_HOUR r_DAY res h0 n0) ({ frames := 0, cells := 0, slots := 0, locals := 0 } : Room).cells ({ frames := 0, cells := 0, slots := 0, locals := 0 } : Room).slots) (s₁.setTop (entryFrame m #[(.int q)] 1))
  refine own_bk (S' := (s₁.setTop (mkF m 0 #[iv q] []))) (fun t_ kont => castTop (ef_rm1 m (q)) kont) ?_
  refine own_bk (S' := (s₁.setTop (mkF m 1 #[iv q] [(.int q)]))) (fun t_ kont => XS.iloadN X0.here hx rfl (hb hby d1_0) rfl kont) ?_
  refine own_bk (S' := (s₁.setTop (mkF m 3 #[iv q] [(.int (115 : Int32)), (.int q)]))) (fun t_ kont => XS.bipush X0.here hx rfl (hb hby d1_1) kont) ?_
  by_cases hc1 : (q) = ((115 : Int32))
  · refine own_bk (S' := (s₁.setTop (mkF m 6 #[iv q] []))) (fun t_ kont => XS.icmpNo X0.here hx rfl (hb hby d1_3) rfl (teq (hc1)).2 kont) ?_
    obtain ⟨T2, X3, e4, st5⟩ := getS2 X0 hx hZ hown (host := "") (Or.inl (hw _ (List.mem_of_getElem? (i := 4) rfl))) Via.refl e0 S_SECOND (g := (mkF m 6 #[iv q] [])) rfl (hb hby d1_6)
    refine own_bk (S' := (T2.setTop (mkF m 9 #[iv q] [(.ref r_SECOND)]))) st5 ?_
    exact own_retA X3 hx hlk Bd.returns rfl rfl rfl (hb hby d1_9) ⟨by rw [← hv]; simp [hc1], N0, e4⟩ (by decide) (by decide)
  · refine own_bk (S' := (s₁.setTop (mkF m 10 #[iv q] []))) (fun t_ kont => XS.icmpYes X0.here hx rfl (pc0 := 3) (pc' := 10) rfl (hb hby d1_3) rfl (feq (hc1)).2 (by decide) (by decide) kont) ?_
    refine own_bk (S' := (s₁.setTop (mkF m 11 #[iv q] [(.int q)]))) (fun t_ kont => XS.iloadN X0.here hx rfl (hb hby d1_10) rfl kont) ?_
    refine own_bk (S' := (s₁.setTop (mkF m 13 #[iv q] [(.int (109 : Int32)), (.int q)]))) (fun t_ kont => XS.bipush X0.here hx rfl (hb hby d1_11) kont) ?_
    by_cases hc6 : (q) = ((109 : Int32))
    · refine own_bk (S' := (s₁.setTop (mkF m 16 #[iv q] []))) (fun t_ kont => XS.icmpNo X0.here hx rfl (hb hby d1_13) rfl (teq (hc6)).2 kont) ?_
      obtain ⟨T7, X8, e9, st10⟩ := getS2 X0 hx hZ hown (host := "") (Or.inl (hw _ (List.mem_of_getElem? (i := 32) rfl))) Via.refl e0 S_MINUTE (g := (mkF m 16 #[iv q] [])) rfl (hb hby d1_16)
      refine own_bk (S' := (T7.setTop (mkF m 19 #[iv q] [(.ref r_MINUTE)]))) st10 ?_
      exact own_retA X8 hx hlk Bd.returns rfl rfl rfl (hb hby d1_19) ⟨by rw [← hv]; simp [hc1, hc6], N0, e9⟩ (by decide) (by decide)
    · refine own_bk (S' := (s₁.setTop (mkF m 20 #[iv q] []))) (fun t_ kont => XS.icmpYes X0.here hx rfl (pc0 := 13) (pc' := 20) rfl (hb hby d1_13) rfl (feq (hc6)).2 (by decide) (by decide) kont) ?_
      refine own_bk (S' := (s₁.setTop (mkF m 21 #[iv q] [(.int q)]))) (fun t_ kont => XS.iloadN X0.here hx rfl (hb hby d1_20) rfl kont) ?_
      refine own_bk (S' := (s₁.setTop (mkF m 23 #[iv q] [(.int (104 : Int32)), (.int q)]))) (fun t_ kont => XS.bipush X0.here hx rfl (hb hby d1_21) kont) ?_
      by_cases hc11 : (q) = ((104 : Int32))
      · refine own_bk (S' := (s₁.setTop (mkF m 26 #[iv q] []))) (fun t_ kont => XS.icmpNo X0.here hx rfl (hb hby d1_23) rfl (teq (hc11)).2 kont) ?_
        obtain ⟨T12, X13, e14, st15⟩ := getS2 X0 hx hZ hown (host := "") (Or.inl (hw _ (List.mem_of_getElem? (i := 33) rfl))) Via.refl e0 S_HOUR (g := (mkF m 26 #[iv q] [])) rfl (hb hby d1_26)
        refine own_bk (S' := (T12.setTop (mkF m 29 #[iv q] [(.ref r_HOUR)]))) st15 ?_
        exact own_retA X13 hx hlk Bd.returns rfl rfl rfl (hb hby d1_29) ⟨by rw [← hv]; simp [hc1, hc6, hc11], N0, e14⟩ (by decide) (by decide)
      · refine own_bk (S' := (s₁.setTop (mkF m 30 #[iv q] []))) (fun t_ kont => XS.icmpYes X0.here hx rfl (pc0 := 23) (pc' := 30) rfl (hb hby d1_23) rfl (feq (hc11)).2 (by decide) (by decide) kont) ?_
        refine own_bk (S' := (s₁.setTop (mkF m 31 #[iv q] [(.int q)]))) (fun t_ kont => XS.iloadN X0.here hx rfl (hb hby d1_30) rfl kont) ?_
        refine own_bk (S' := (s₁.setTop (mkF m 33 #[iv q] [(.int (100 : Int32)), (.int q)]))) (fun t_ kont => XS.bipush X0.here hx rfl (hb hby d1_31) kont) ?_
        by_cases hc16 : (q) = ((100 : Int32))
        · refine own_bk (S' := (s₁.setTop (mkF m 36 #[iv q] []))) (fun t_ kont => XS.icmpNo X0.here hx rfl (hb hby d1_33) rfl (teq (hc16)).2 kont) ?_
          obtain ⟨T17, X18, e19, st20⟩ := getS2 X0 hx hZ hown (host := "") (Or.inl (hw _ (List.mem_of_getElem? (i := 31) rfl))) Via.refl e0 S_DAY (g := (mkF m 36 #[iv q] [])) rfl (hb hby d1_36)
          refine own_bk (S' := (T17.setTop (mkF m 39 #[iv q] [(.ref r_DAY)]))) st20 ?_
          exact own_retA X18 hx hlk Bd.returns rfl rfl rfl (hb hby d1_39) ⟨by rw [← hv]; simp [hc1, hc6, hc11, hc16], N0, e19⟩ (by decide) (by decide)
        · refine own_bk (S' := (s₁.setTop (mkF m 40 #[iv q] []))) (fun t_ kont => XS.icmpYes X0.here hx rfl (pc0 := 33) (pc' := 40) rfl (hb hby d1_33) rfl (feq (hc16)).2 (by decide) (by decide) kont) ?_
          refine own_bk (S' := (s₁.setTop (mkF m 41 #[iv q] [.null]))) (fun t_ kont => XS.aconstNull X0.here hx rfl (hb hby d1_40) kont) ?_
          exact own_retA X0 hx hlk Bd.returns rfl rfl rfl (hb hby d1_41) ⟨by rw [← hv]; simp [hc1, hc6, hc11, hc16], N0, e0⟩ (by decide) (by decide)
theorem ef_rm0 (m : MethodId) (x0 : Int32) (x1 : Int32) : entryFrame m #[(.int x0), (.int x1)] maxLocals = mkF m 0 #[.val (.int x0), .val (.int x1), .unset, .unset, .unset, .unset] [] := by first | (simp [entryFrame, mkF, argsToLocals, Value.category, maxLocals]; done) | rfl
def Q_rm0 (Z : State) (v0 v1 : Int32) (rV : Addr) (kV : ClassId) (r_SECOND r_MINUTE r_HOUR r_DAY : Addr) (h0 : Heap) (n0 : Nat) (v : Option Value) (h : Heap) (L : List Loc) : Prop := v = some (.int 1) ∧ Fr n0 L
set_option maxRecDepth 65536 in
set_option maxHeartbeats 40000000 in
theorem rm0 (l : Launch) (Z : State) (a0 : Array Value) (hw : ∀ d ∈ tables_1, d.before a0 Z = true) (ws : List Jvm.Cond) (v0 v1 : Int32) (rV : Addr) (kV : ClassId) (r_SECOND r_MINUTE r_HOUR r_DAY : Addr) (h0 : Heap) (n0 : Nat) (Z0 : n0 ≤ h0.size) (O : Old Z n0 h0) (SV : Sta Z Z.heap "com/example/lubeck/lubeck/policy/DurationUnit" "$VALUES" "[Lcom/example/lubeck/lubeck/policy/DurationUnit;" (.ref rV)) (AV : Arv Z Z.heap rV kV (.object "com/example/lubeck/lubeck/policy/DurationUnit") (4 : Int32) [(.ref r_SECOND), (.ref r_MINUTE), (.ref r_HOUR), (.ref r_DAY)] .null) (EV : Exa Z Z.heap rV "[Lcom/example/lubeck/lubeck/policy/DurationUnit;") (S_SECOND : Sta Z Z.heap "com/example/lubeck/lubeck/policy/DurationUnit" "SECOND" "Lcom/example/lubeck/lubeck/policy/DurationUnit;" (.ref r_SECOND)) (F_SECOND : Fld Z Z.heap r_SECOND "com/example/lubeck/lubeck/policy/DurationUnit" "symbol" "C" (.int 115)) (S_MINUTE : Sta Z Z.heap "com/example/lubeck/lubeck/policy/DurationUnit" "MINUTE" "Lcom/example/lubeck/lubeck/policy/DurationUnit;" (.ref r_MINUTE)) (F_MINUTE : Fld Z Z.heap r_MINUTE "com/example/lubeck/lubeck/policy/DurationUnit" "symbol" "C" (.int 109)) (S_HOUR : Sta Z Z.heap "com/example/lubeck/lubeck/policy/DurationUnit" "HOUR" "Lcom/example/lubeck/lubeck/policy/DurationUnit;" (.ref r_HOUR)) (F_HOUR : Fld Z Z.heap r_HOUR "com/example/lubeck/lubeck/policy/DurationUnit" "symbol" "C" (.int 104)) (S_DAY : Sta Z Z.heap "com/example/lubeck/lubeck/policy/DurationUnit" "DAY" "Lcom/example/lubeck/lubeck/policy/DurationUnit;" (.ref r_DAY)) (F_DAY : Fld Z Z.heap r_DAY "com/example/lubeck/lubeck/policy/DurationUnit" "symbol" "C" (.int 100)) :
    MetFree l x (head1 (Jvm.Cond.code x code maxLocals ret :: ws) room_1) (fun as_ U_ => as_ = #[(.int v0), (.int v1)] ∧ Z.Warmed39 U_.vm ∧ U_.heap = h0) (fun _ _ _ _ _ => True) (fun _ U_ o_ U2_ => ∃ v_ L_, o_ = .returned v_ ∧ (Q_rm0 Z v0 v1 rV kV r_SECOND r_MINUTE r_HOUR r_DAY h0 n0) v_ U2_.heap L_ ∧ FrameEnd U_ o_ U2_ L_ room_1.cells room_1.slots) := by
  refine MetFree.of_bodySF (plainFor_of_name (by first | (simp [plainName, overriddenIn]; done) | decide +kernel : plainName "com/example/lubeck/lubeck/policy/DurationUnitOfPinLaw" = true)) hisR ?_
  intro p e s m args below meth c s₁ Bd hml0 hP hK
  obtain ⟨rfl, hZ, hh⟩ := hP
  have hx := Bd.exec
  have hby := Bd.bytes
  have hlk := Bd.notSynchronized
  have hml : c.maxLocals = 6 := hml0
  have hown : s.vm.findClass "com/example/lubeck/lubeck/policy/DurationUnitOfPinLaw" = some m.cls := findClass_of_methodNamed Bd.named
  have hnm := (name_of_methodNamed Bd.named Bd.method).1
  have X0 : Stand p l e room_1 s m #[(.int v0), (.int v1)] below meth c s₁ [] 0 0 := Stand.of_body Bd
  have e0 : s₁.heap = h0 := by rw [← hh, Bd.state]; rfl
  have N0 := Fr.nil n0
  show own_Go p e below (own_R s below (Q_rm0 Z v0 v1 rV kV r_SECOND r_MINUTE r_HOUR r_DAY h0 n0) room_1.cells room_1.slots) (s₁.setTop (entryFrame m #[(.int v0), (.int v1)] maxLocals))
  refine own_bk (S' := (s₁.setTop (mkF m 0 #[iv v0, iv v1, .unset, .unset, .unset, .unset] []))) (fun t_ kont => castTop (ef_rm0 m (v0) (v1)) kont) ?_
  refine own_bk (S' := (s₁.setTop (mkF m 1 #[iv v0, iv v1, .unset, .unset, .unset, .unset] [(.int v0)]))) (fun t_ kont => XS.iloadN X0.here hx rfl (hb hby at_0) rfl kont) ?_
  refine own_bk (S' := (s₁.setTop (mkF m 3 #[iv v0, iv v1, .unset, .unset, .unset, .unset] [(.int (7 : Int32)), (.int v0)]))) (fun t_ kont => XS.bipush X0.here hx rfl (hb hby at_1) kont) ?_
  refine own_bk (S' := (s₁.setTop (mkF m 4 #[iv v0, iv v1, .unset, .unset, .unset, .unset] [(.int (v0 &&& (7 : Int32)))]))) (fun t_ kont => XS.iand X0.here hx rfl (hb hby at_3) rfl kont) ?_
  refine own_bk (S' := (s₁.setTop (mkF m 5 #[iv v0, iv v1, iv (v0 &&& (7 : Int32)), .unset, .unset, .unset] []))) (fun t_ kont => XS.istoreN X0.here hx rfl (hb hby at_4) rfl (l' := #[iv v0, iv v1, iv (v0 &&& (7 : Int32)), .unset, .unset, .unset]) rfl kont) ?_
  refine own_bk (S' := (s₁.setTop (mkF m 6 #[iv v0, iv v1, iv (v0 &&& (7 : Int32)), .unset, .unset, .unset] [(.int (v0 &&& (7 : Int32)))]))) (fun t_ kont => XS.iloadN X0.here hx rfl (hb hby at_5) rfl kont) ?_
  by_cases hc1 : ((v0 &&& (7 : Int32))) = ((0 : Int32))
  · refine own_bk (S' := (s₁.setTop (mkF m 9 #[iv v0, iv v1, iv (v0 &&& (7 : Int32)), .unset, .unset, .unset] []))) (fun t_ kont => XS.ifNo X0.here hx rfl (hb hby at_6) rfl ((if0 _ _).trans (teq (hc1)).2) kont) ?_
    refine own_bk (S' := (s₁.setTop (mkF m 11 #[iv v0, iv v1, iv (v0 &&& (7 : Int32)), .unset, .unset, .unset] [(.int (115 : Int32))]))) (fun t_ kont => XS.bipush X0.here hx rfl (hb hby at_9) kont) ?_
    refine own_bk (S' := (s₁.setTop (mkF m 12 #[iv v0, iv v1, iv (v0 &&& (7 : Int32)), iv (115 : Int32), .unset, .unset] []))) (fun t_ kont => XS.istoreN X0.here hx rfl (hb hby at_11) rfl (l' := #[iv v0, iv v1, iv (v0 &&& (7 : Int32)), iv (115 : Int32), .unset, .unset]) rfl kont) ?_
    refine own_bk (S' := (s₁.setTop (mkF m 54 #[iv v0, iv v1, iv (v0 &&& (7 : Int32)), iv (115 : Int32), .unset, .unset] []))) (fun t_ kont => XS.goto X0.here hx rfl (pc0 := 12) (pc' := 54) rfl (hb hby at_12) (by decide) (by decide) kont) ?_
    refine own_bk (S' := (s₁.setTop (mkF m 55 #[iv v0, iv v1, iv (v0 &&& (7 : Int32)), iv (115 : Int32), .unset, .unset] [(.int (115 : Int32))]))) (fun t_ kont => XS.iloadN X0.here hx rfl (hb hby at_54) rfl kont) ?_
    obtain ⟨_, _, ⟨T2, L3, k4, n5⟩, -, X6, ⟨Lc7, hQ8, l9, y10, z11⟩, st12⟩ := Jvm.LawKit.callS X0 hx (y := (⟨"com/example/lubeck/lubeck/policy/DurationUnitOfPinLaw", "expectedOf", "(C)Lcom/example/lubeck/lubeck/policy/DurationUnit;"⟩ : MethodName)) hown (mvT hZ (hw _ (List.mem_of_getElem? (i := 0) rfl))) (mvT hZ (hw _ (List.mem_of_getElem? (i := 1) rfl))) (mvT hZ (hw _ (List.mem_of_getElem? (i := 2) rfl))) (mvT hZ (hw _ (List.mem_of_getElem? (i := 3) rfl))) (by decide) (backOf (W := 0) (rm1 l Z a0 hw [] (115 : Int32) r_SECOND r_MINUTE r_HOUR r_DAY (.ref r_SECOND) h0 n0 Z0 (S_SECOND.ext O.2) (S_MINUTE.ext O.2) (S_HOUR.ext O.2) (S_DAY.ext O.2) rfl) hZ (hw _ (List.mem_of_getElem? (i := 3) rfl)) (hw _ (List.mem_of_getElem? (i := 2) rfl)) (by decide) (by decide)) (g := (mkF m 55 #[iv v0, iv v1, iv (v0 &&& (7 : Int32)), iv (115 : Int32), .unset, .unset] [(.int (115 : Int32))])) rfl (by rw [hml]; rfl) (argsL := [(.int (115 : Int32))]) (rest := []) (lenOf (by decide +kernel : parseMethodDescriptor "(C)Lcom/example/lubeck/lubeck/policy/DurationUnit;" = some ⟨[.char], some (.object "com/example/lubeck/lubeck/policy/DurationUnit")⟩) rfl) rfl (by show 2 * 0 + _ ≤ _; exact Nat.le_of_eq rfl) (hb hby at_55) (fun _ _ => ⟨rfl, e0, (by decide : 0 + 0 ≤ _), (by decide : 0 + 0 ≤ _)⟩)
    dsimp only [Pt.U, Pt.locs, Pt.cells, Pt.slots] at X6 l9 y10 z11 st12 hQ8
    subst l9 y10 z11
    obtain ⟨rfl, N13, e14⟩ := hQ8
    have N15 := Fr.app N0 N13
    refine own_bk (S' := (T2.setTop (mkF m 58 #[iv v0, iv v1, iv (v0 &&& (7 : Int32)), iv (115 : Int32), .unset, .unset] [(.ref r_SECOND)]))) st12 ?_
    refine own_bk (S' := (T2.setTop (mkF m 60 #[iv v0, iv v1, iv (v0 &&& (7 : Int32)), iv (115 : Int32), rv r_SECOND, .unset] []))) (fun t_ kont => XS.astore X6.here hx rfl (hb hby at_58) rfl rfl (l' := #[iv v0, iv v1, iv (v0 &&& (7 : Int32)), iv (115 : Int32), rv r_SECOND, .unset]) rfl kont) ?_
    refine own_bk (S' := (T2.setTop (mkF m 61 #[iv v0, iv v1, iv (v0 &&& (7 : Int32)), iv (115 : Int32), rv r_SECOND, .unset] [(.int (115 : Int32))]))) (fun t_ kont => XS.iloadN X6.here hx rfl (hb hby at_60) rfl kont) ?_
    obtain ⟨_, _, ⟨T16, L17, k18, n19⟩, -, X20, ⟨Lc21, hQ22, l23, y24, z25⟩, st26⟩ := Jvm.LawKit.callS X6 hx (y := (⟨"com/example/lubeck/lubeck/policy/DurationUnit", "of", "(C)Lcom/example/lubeck/lubeck/policy/DurationUnit;"⟩ : MethodName)) hown (mvT hZ (hw _ (List.mem_of_getElem? (i := 7) rfl))) (mvT hZ (hw _ (List.mem_of_getElem? (i := 8) rfl))) (mvT hZ (hw _ (List.mem_of_getElem? (i := 5) rfl))) (mvT hZ (hw _ (List.mem_of_getElem? (i := 9) rfl))) (by decide) (backOf (W := 0) (rm2 l Z a0 hw [] (115 : Int32) rV kV r_SECOND r_MINUTE r_HOUR r_DAY (.ref r_SECOND) h0 n0 Z0 O SV AV EV F_SECOND F_MINUTE F_HOUR F_DAY rfl) hZ (hw _ (List.mem_of_getElem? (i := 9) rfl)) (hw _ (List.mem_of_getElem? (i := 5) rfl)) (by decide) (by decide)) (g := (mkF m 61 #[iv v0, iv v1, iv (v0 &&& (7 : Int32)), iv (115 : Int32), rv r_SECOND, .unset] [(.int (115 : Int32))])) rfl (by rw [hml]; rfl) (argsL := [(.int (115 : Int32))]) (rest := []) (lenOf (by decide +kernel : parseMethodDescriptor "(C)Lcom/example/lubeck/lubeck/policy/DurationUnit;" = some ⟨[.char], some (.object "com/example/lubeck/lubeck/policy/DurationUnit")⟩) rfl) rfl (by show 2 * 0 + _ ≤ _; exact Nat.le_of_eq rfl) (hb hby at_61) (fun _ _ => ⟨rfl, e14, (by decide : 0 + 1 ≤ _), (by decide : 0 + 4 ≤ _)⟩)
    dsimp only [Pt.U, Pt.locs, Pt.cells, Pt.slots] at X20 l23 y24 z25 st26 hQ22
    subst l23 y24 z25
    obtain ⟨rfl, N27⟩ := hQ22
    have N29 := Fr.app N15 N27
    refine own_bk (S' := (T16.setTop (mkF m 64 #[iv v0, iv v1, iv (v0 &&& (7 : Int32)), iv (115 : Int32), rv r_SECOND, .unset] [(.ref r_SECOND)]))) st26 ?_
    refine own_bk (S' := (T16.setTop (mkF m 66 #[iv v0, iv v1, iv (v0 &&& (7 : Int32)), iv (115 : Int32), rv r_SECOND, rv r_SECOND] []))) (fun t_ kont => XS.astore X20.here hx rfl (hb hby at_64) rfl rfl (l' := #[iv v0, iv v1, iv (v0 &&& (7 : Int32)), iv (115 : Int32), rv r_SECOND, rv r_SECOND]) rfl kont) ?_
    refine own_bk (S' := (T16.setTop (mkF m 68 #[iv v0, iv v1, iv (v0 &&& (7 : Int32)), iv (115 : Int32), rv r_SECOND, rv r_SECOND] [(.ref r_SECOND)]))) (fun t_ kont => XS.aload X20.here hx rfl (hb hby at_66) rfl rfl kont) ?_
    refine own_bk (S' := (T16.setTop (mkF m 70 #[iv v0, iv v1, iv (v0 &&& (7 : Int32)), iv (115 : Int32), rv r_SECOND, rv r_SECOND] [(.ref r_SECOND), (.ref r_SECOND)]))) (fun t_ kont => XS.aload X20.here hx rfl (hb hby at_68) rfl rfl kont) ?_
    refine own_bk (S' := (T16.setTop (mkF m 73 #[iv v0, iv v1, iv (v0 &&& (7 : Int32)), iv (115 : Int32), rv r_SECOND, rv r_SECOND] []))) (fun t_ kont => Jvm.RoadKit.acmp (g := (mkF m 70 #[iv v0, iv v1, iv (v0 &&& (7 : Int32)), iv (115 : Int32), rv r_SECOND, rv r_SECOND] [(.ref r_SECOND), (.ref r_SECOND)])) X20 hx rfl rfl rfl (pc0 := 70) (pc' := 73) (same := true) rfl (hb hby at_70) rfl (decide_eq_true rfl) (by decide) (by decide) kont) ?_
    refine own_bk (S' := (T16.setTop (mkF m 74 #[iv v0, iv v1, iv (v0 &&& (7 : Int32)), iv (115 : Int32), rv r_SECOND, rv r_SECOND] [(.int (1 : Int32))]))) (fun t_ kont => XS.iconst X20.here hx rfl (hb hby at_73) kont) ?_
    refine own_bk (S' := (T16.setTop (mkF m 78 #[iv v0, iv v1, iv (v0 &&& (7 : Int32)), iv (115 : Int32), rv r_SECOND, rv r_SECOND] [(.int (1 : Int32))]))) (fun t_ kont => XS.goto X20.here hx rfl (pc0 := 74) (pc' := 78) rfl (hb hby at_74) (by decide) (by decide) kont) ?_
    exact own_retN X20 hx hlk (t := .boolean) (w := (1 : Int32)) Bd.returns (by simp) (hb hby at_78) rfl ⟨rfl, N29⟩ (by decide) (by decide)
  · refine own_bk (S' := (s₁.setTop (mkF m 15 #[iv v0, iv v1, iv (v0 &&& (7 : Int32)), .unset, .unset, .unset] []))) (fun t_ kont => XS.ifYes X0.here hx rfl (pc0 := 6) (pc' := 15) rfl (hb hby at_6) rfl ((if0 _ _).trans (feq (hc1)).2) (by decide) (by decide) kont) ?_
    refine own_bk (S' := (s₁.setTop (mkF m 16 #[iv v0, iv v1, iv (v0 &&& (7 : Int32)), .unset, .unset, .unset] [(.int (v0 &&& (7 : Int32)))]))) (fun t_ kont => XS.iloadN X0.here hx rfl (hb hby at_15) rfl kont) ?_
    refine own_bk (S' := (s₁.setTop (mkF m 17 #[iv v0, iv v1, iv (v0 &&& (7 : Int32)), .unset, .unset, .unset] [(.int (1 : Int32)), (.int (v0 &&& (7 : Int32)))]))) (fun t_ kont => XS.iconst X0.here hx rfl (hb hby at_16) kont) ?_
    by_cases hc30 : ((v0 &&& (7 : Int32))) = ((1 : Int32))
    · refine own_bk (S' := (s₁.setTop (mkF m 20 #[iv v0, iv v1, iv (v0 &&& (7 : Int32)), .unset, .unset, .unset] []))) (fun t_ kont => XS.icmpNo X0.here hx rfl (hb hby at_17) rfl (teq (hc30)).2 kont) ?_
      refine own_bk (S' := (s₁.setTop (mkF m 22 #[iv v0, iv v1, iv (v0 &&& (7 : Int32)), .unset, .unset, .unset] [(.int (109 : Int32))]))) (fun t_ kont => XS.bipush X0.here hx rfl (hb hby at_20) kont) ?_
      refine own_bk (S' := (s₁.setTop (mkF m 23 #[iv v0, iv v1, iv (v0 &&& (7 : Int32)), iv (109 : Int32), .unset, .unset] []))) (fun t_ kont => XS.istoreN X0.here hx rfl (hb hby at_22) rfl (l' := #[iv v0, iv v1, iv (v0 &&& (7 : Int32)), iv (109 : Int32), .unset, .unset]) rfl kont) ?_
      refine own_bk (S' := (s₁.setTop (mkF m 54 #[iv v0, iv v1, iv (v0 &&& (7 : Int32)), iv (109 : Int32), .unset, .unset] []))) (fun t_ kont => XS.goto X0.here hx rfl (pc0 := 23) (pc' := 54) rfl (hb hby at_23) (by decide) (by decide) kont) ?_
      refine own_bk (S' := (s₁.setTop (mkF m 55 #[iv v0, iv v1, iv (v0 &&& (7 : Int32)), iv (109 : Int32), .unset, .unset] [(.int (109 : Int32))]))) (fun t_ kont => XS.iloadN X0.here hx rfl (hb hby at_54) rfl kont) ?_
      obtain ⟨_, _, ⟨T31, L32, k33, n34⟩, -, X35, ⟨Lc36, hQ37, l38, y39, z40⟩, st41⟩ := Jvm.LawKit.callS X0 hx (y := (⟨"com/example/lubeck/lubeck/policy/DurationUnitOfPinLaw", "expectedOf", "(C)Lcom/example/lubeck/lubeck/policy/DurationUnit;"⟩ : MethodName)) hown (mvT hZ (hw _ (List.mem_of_getElem? (i := 0) rfl))) (mvT hZ (hw _ (List.mem_of_getElem? (i := 1) rfl))) (mvT hZ (hw _ (List.mem_of_getElem? (i := 2) rfl))) (mvT hZ (hw _ (List.mem_of_getElem? (i := 3) rfl))) (by decide) (backOf (W := 0) (rm1 l Z a0 hw [] (109 : Int32) r_SECOND r_MINUTE r_HOUR r_DAY (.ref r_MINUTE) h0 n0 Z0 (S_SECOND.ext O.2) (S_MINUTE.ext O.2) (S_HOUR.ext O.2) (S_DAY.ext O.2) rfl) hZ (hw _ (List.mem_of_getElem? (i := 3) rfl)) (hw _ (List.mem_of_getElem? (i := 2) rfl)) (by decide) (by decide)) (g := (mkF m 55 #[iv v0, iv v1, iv (v0 &&& (7 : Int32)), iv (109 : Int32), .unset, .unset] [(.int (109 : Int32))])) rfl (by rw [hml]; rfl) (argsL := [(.int (109 : Int32))]) (rest := []) (lenOf (by decide +kernel : parseMethodDescriptor "(C)Lcom/example/lubeck/lubeck/policy/DurationUnit;" = some ⟨[.char], some (.object "com/example/lubeck/lubeck/policy/DurationUnit")⟩) rfl) rfl (by show 2 * 0 + _ ≤ _; exact Nat.le_of_eq rfl) (hb hby at_55) (fun _ _ => ⟨rfl, e0, (by decide : 0 + 0 ≤ _), (by decide : 0 + 0 ≤ _)⟩)
      dsimp only [Pt.U, Pt.locs, Pt.cells, Pt.slots] at X35 l38 y39 z40 st41 hQ37
      subst l38 y39 z40
      obtain ⟨rfl, N42, e43⟩ := hQ37
      have N44 := Fr.app N0 N42
      refine own_bk (S' := (T31.setTop (mkF m 58 #[iv v0, iv v1, iv (v0 &&& (7 : Int32)), iv (109 : Int32), .unset, .unset] [(.ref r_MINUTE)]))) st41 ?_
      refine own_bk (S' := (T31.setTop (mkF m 60 #[iv v0, iv v1, iv (v0 &&& (7 : Int32)), iv (109 : Int32), rv r_MINUTE, .unset] []))) (fun t_ kont => XS.astore X35.here hx rfl (hb hby at_58) rfl rfl (l' := #[iv v0, iv v1, iv (v0 &&& (7 : Int32)), iv (109 : Int32), rv r_MINUTE, .unset]) rfl kont) ?_
      refine own_bk (S' := (T31.setTop (mkF m 61 #[iv v0, iv v1, iv (v0 &&& (7 : Int32)), iv (109 : Int32), rv r_MINUTE, .unset] [(.int (109 : Int32))]))) (fun t_ kont => XS.iloadN X35.here hx rfl (hb hby at_60) rfl kont) ?_
      obtain ⟨_, _, ⟨T45, L46, k47, n48⟩, -, X49, ⟨Lc50, hQ51, l52, y53, z54⟩, st55⟩ := Jvm.LawKit.callS X35 hx (y := (⟨"com/example/lubeck/lubeck/policy/DurationUnit", "of", "(C)Lcom/example/lubeck/lubeck/policy/DurationUnit;"⟩ : MethodName)) hown (mvT hZ (hw _ (List.mem_of_getElem? (i := 7) rfl))) (mvT hZ (hw _ (List.mem_of_getElem? (i := 8) rfl))) (mvT hZ (hw _ (List.mem_of_getElem? (i := 5) rfl))) (mvT hZ (hw _ (List.mem_of_getElem? (i := 9) rfl))) (by decide) (backOf (W := 0) (rm2 l Z a0 hw [] (109 : Int32) rV kV r_SECOND r_MINUTE r_HOUR r_DAY (.ref r_MINUTE) h0 n0 Z0 O SV AV EV F_SECOND F_MINUTE F_HOUR F_DAY rfl) hZ (hw _ (List.mem_of_getElem? (i := 9) rfl)) (hw _ (List.mem_of_getElem? (i := 5) rfl)) (by decide) (by decide)) (g := (mkF m 61 #[iv v0, iv v1, iv (v0 &&& (7 : Int32)), iv (109 : Int32), rv r_MINUTE, .unset] [(.int (109 : Int32))])) rfl (by rw [hml]; rfl) (argsL := [(.int (109 : Int32))]) (rest := []) (lenOf (by decide +kernel : parseMethodDescriptor "(C)Lcom/example/lubeck/lubeck/policy/DurationUnit;" = some ⟨[.char], some (.object "com/example/lubeck/lubeck/policy/DurationUnit")⟩) rfl) rfl (by show 2 * 0 + _ ≤ _; exact Nat.le_of_eq rfl) (hb hby at_61) (fun _ _ => ⟨rfl, e43, (by decide : 0 + 1 ≤ _), (by decide : 0 + 4 ≤ _)⟩)
      dsimp only [Pt.U, Pt.locs, Pt.cells, Pt.slots] at X49 l52 y53 z54 st55 hQ51
      subst l52 y53 z54
      obtain ⟨rfl, N56⟩ := hQ51
      have N58 := Fr.app N44 N56
      refine own_bk (S' := (T45.setTop (mkF m 64 #[iv v0, iv v1, iv (v0 &&& (7 : Int32)), iv (109 : Int32), rv r_MINUTE, .unset] [(.ref r_MINUTE)]))) st55 ?_
      refine own_bk (S' := (T45.setTop (mkF m 66 #[iv v0, iv v1, iv (v0 &&& (7 : Int32)), iv (109 : Int32), rv r_MINUTE, rv r_MINUTE] []))) (fun t_ kont => XS.astore X49.here hx rfl (hb hby at_64) rfl rfl (l' := #[iv v0, iv v1, iv (v0 &&& (7 : Int32)), iv (109 : Int32), rv r_MINUTE, rv r_MINUTE]) rfl kont) ?_
      refine own_bk (S' := (T45.setTop (mkF m 68 #[iv v0, iv v1, iv (v0 &&& (7 : Int32)), iv (109 : Int32), rv r_MINUTE, rv r_MINUTE] [(.ref r_MINUTE)]))) (fun t_ kont => XS.aload X49.here hx rfl (hb hby at_66) rfl rfl kont) ?_
      refine own_bk (S' := (T45.setTop (mkF m 70 #[iv v0, iv v1, iv (v0 &&& (7 : Int32)), iv (109 : Int32), rv r_MINUTE, rv r_MINUTE] [(.ref r_MINUTE), (.ref r_MINUTE)]))) (fun t_ kont => XS.aload X49.here hx rfl (hb hby at_68) rfl rfl kont) ?_
      refine own_bk (S' := (T45.setTop (mkF m 73 #[iv v0, iv v1, iv (v0 &&& (7 : Int32)), iv (109 : Int32), rv r_MINUTE, rv r_MINUTE] []))) (fun t_ kont => Jvm.RoadKit.acmp (g := (mkF m 70 #[iv v0, iv v1, iv (v0 &&& (7 : Int32)), iv (109 : Int32), rv r_MINUTE, rv r_MINUTE] [(.ref r_MINUTE), (.ref r_MINUTE)])) X49 hx rfl rfl rfl (pc0 := 70) (pc' := 73) (same := true) rfl (hb hby at_70) rfl (decide_eq_true rfl) (by decide) (by decide) kont) ?_
      refine own_bk (S' := (T45.setTop (mkF m 74 #[iv v0, iv v1, iv (v0 &&& (7 : Int32)), iv (109 : Int32), rv r_MINUTE, rv r_MINUTE] [(.int (1 : Int32))]))) (fun t_ kont => XS.iconst X49.here hx rfl (hb hby at_73) kont) ?_
      refine own_bk (S' := (T45.setTop (mkF m 78 #[iv v0, iv v1, iv (v0 &&& (7 : Int32)), iv (109 : Int32), rv r_MINUTE, rv r_MINUTE] [(.int (1 : Int32))]))) (fun t_ kont => XS.goto X49.here hx rfl (pc0 := 74) (pc' := 78) rfl (hb hby at_74) (by decide) (by decide) kont) ?_
      exact own_retN X49 hx hlk (t := .boolean) (w := (1 : Int32)) Bd.returns (by simp) (hb hby at_78) rfl ⟨rfl, N58⟩ (by decide) (by decide)
    · refine own_bk (S' := (s₁.setTop (mkF m 26 #[iv v0, iv v1, iv (v0 &&& (7 : Int32)), .unset, .unset, .unset] []))) (fun t_ kont => XS.icmpYes X0.here hx rfl (pc0 := 17) (pc' := 26) rfl (hb hby at_17) rfl (feq (hc30)).2 (by decide) (by decide) kont) ?_
      refine own_bk (S' := (s₁.setTop (mkF m 27 #[iv v0, iv v1, iv (v0 &&& (7 : Int32)), .unset, .unset, .unset] [(.int (v0 &&& (7 : Int32)))]))) (fun t_ kont => XS.iloadN X0.here hx rfl (hb hby at_26) rfl kont) ?_
      refine own_bk (S' := (s₁.setTop (mkF m 28 #[iv v0, iv v1, iv (v0 &&& (7 : Int32)), .unset, .unset, .unset] [(.int (2 : Int32)), (.int (v0 &&& (7 : Int32)))]))) (fun t_ kont => XS.iconst X0.here hx rfl (hb hby at_27) kont) ?_
      by_cases hc59 : ((v0 &&& (7 : Int32))) = ((2 : Int32))
      · refine own_bk (S' := (s₁.setTop (mkF m 31 #[iv v0, iv v1, iv (v0 &&& (7 : Int32)), .unset, .unset, .unset] []))) (fun t_ kont => XS.icmpNo X0.here hx rfl (hb hby at_28) rfl (teq (hc59)).2 kont) ?_
        refine own_bk (S' := (s₁.setTop (mkF m 33 #[iv v0, iv v1, iv (v0 &&& (7 : Int32)), .unset, .unset, .unset] [(.int (104 : Int32))]))) (fun t_ kont => XS.bipush X0.here hx rfl (hb hby at_31) kont) ?_
        refine own_bk (S' := (s₁.setTop (mkF m 34 #[iv v0, iv v1, iv (v0 &&& (7 : Int32)), iv (104 : Int32), .unset, .unset] []))) (fun t_ kont => XS.istoreN X0.here hx rfl (hb hby at_33) rfl (l' := #[iv v0, iv v1, iv (v0 &&& (7 : Int32)), iv (104 : Int32), .unset, .unset]) rfl kont) ?_
        refine own_bk (S' := (s₁.setTop (mkF m 54 #[iv v0, iv v1, iv (v0 &&& (7 : Int32)), iv (104 : Int32), .unset, .unset] []))) (fun t_ kont => XS.goto X0.here hx rfl (pc0 := 34) (pc' := 54) rfl (hb hby at_34) (by decide) (by decide) kont) ?_
        refine own_bk (S' := (s₁.setTop (mkF m 55 #[iv v0, iv v1, iv (v0 &&& (7 : Int32)), iv (104 : Int32), .unset, .unset] [(.int (104 : Int32))]))) (fun t_ kont => XS.iloadN X0.here hx rfl (hb hby at_54) rfl kont) ?_
        obtain ⟨_, _, ⟨T60, L61, k62, n63⟩, -, X64, ⟨Lc65, hQ66, l67, y68, z69⟩, st70⟩ := Jvm.LawKit.callS X0 hx (y := (⟨"com/example/lubeck/lubeck/policy/DurationUnitOfPinLaw", "expectedOf", "(C)Lcom/example/lubeck/lubeck/policy/DurationUnit;"⟩ : MethodName)) hown (mvT hZ (hw _ (List.mem_of_getElem? (i := 0) rfl))) (mvT hZ (hw _ (List.mem_of_getElem? (i := 1) rfl))) (mvT hZ (hw _ (List.mem_of_getElem? (i := 2) rfl))) (mvT hZ (hw _ (List.mem_of_getElem? (i := 3) rfl))) (by decide) (backOf (W := 0) (rm1 l Z a0 hw [] (104 : Int32) r_SECOND r_MINUTE r_HOUR r_DAY (.ref r_HOUR) h0 n0 Z0 (S_SECOND.ext O.2) (S_MINUTE.ext O.2) (S_HOUR.ext O.2) (S_DAY.ext O.2) rfl) hZ (hw _ (List.mem_of_getElem? (i := 3) rfl)) (hw _ (List.mem_of_getElem? (i := 2) rfl)) (by decide) (by decide)) (g := (mkF m 55 #[iv v0, iv v1, iv (v0 &&& (7 : Int32)), iv (104 : Int32), .unset, .unset] [(.int (104 : Int32))])) rfl (by rw [hml]; rfl) (argsL := [(.int (104 : Int32))]) (rest := []) (lenOf (by decide +kernel : parseMethodDescriptor "(C)Lcom/example/lubeck/lubeck/policy/DurationUnit;" = some ⟨[.char], some (.object "com/example/lubeck/lubeck/policy/DurationUnit")⟩) rfl) rfl (by show 2 * 0 + _ ≤ _; exact Nat.le_of_eq rfl) (hb hby at_55) (fun _ _ => ⟨rfl, e0, (by decide : 0 + 0 ≤ _), (by decide : 0 + 0 ≤ _)⟩)
        dsimp only [Pt.U, Pt.locs, Pt.cells, Pt.slots] at X64 l67 y68 z69 st70 hQ66
        subst l67 y68 z69
        obtain ⟨rfl, N71, e72⟩ := hQ66
        have N73 := Fr.app N0 N71
        refine own_bk (S' := (T60.setTop (mkF m 58 #[iv v0, iv v1, iv (v0 &&& (7 : Int32)), iv (104 : Int32), .unset, .unset] [(.ref r_HOUR)]))) st70 ?_
        refine own_bk (S' := (T60.setTop (mkF m 60 #[iv v0, iv v1, iv (v0 &&& (7 : Int32)), iv (104 : Int32), rv r_HOUR, .unset] []))) (fun t_ kont => XS.astore X64.here hx rfl (hb hby at_58) rfl rfl (l' := #[iv v0, iv v1, iv (v0 &&& (7 : Int32)), iv (104 : Int32), rv r_HOUR, .unset]) rfl kont) ?_
        refine own_bk (S' := (T60.setTop (mkF m 61 #[iv v0, iv v1, iv (v0 &&& (7 : Int32)), iv (104 : Int32), rv r_HOUR, .unset] [(.int (104 : Int32))]))) (fun t_ kont => XS.iloadN X64.here hx rfl (hb hby at_60) rfl kont) ?_
        obtain ⟨_, _, ⟨T74, L75, k76, n77⟩, -, X78, ⟨Lc79, hQ80, l81, y82, z83⟩, st84⟩ := Jvm.LawKit.callS X64 hx (y := (⟨"com/example/lubeck/lubeck/policy/DurationUnit", "of", "(C)Lcom/example/lubeck/lubeck/policy/DurationUnit;"⟩ : MethodName)) hown (mvT hZ (hw _ (List.mem_of_getElem? (i := 7) rfl))) (mvT hZ (hw _ (List.mem_of_getElem? (i := 8) rfl))) (mvT hZ (hw _ (List.mem_of_getElem? (i := 5) rfl))) (mvT hZ (hw _ (List.mem_of_getElem? (i := 9) rfl))) (by decide) (backOf (W := 0) (rm2 l Z a0 hw [] (104 : Int32) rV kV r_SECOND r_MINUTE r_HOUR r_DAY (.ref r_HOUR) h0 n0 Z0 O SV AV EV F_SECOND F_MINUTE F_HOUR F_DAY rfl) hZ (hw _ (List.mem_of_getElem? (i := 9) rfl)) (hw _ (List.mem_of_getElem? (i := 5) rfl)) (by decide) (by decide)) (g := (mkF m 61 #[iv v0, iv v1, iv (v0 &&& (7 : Int32)), iv (104 : Int32), rv r_HOUR, .unset] [(.int (104 : Int32))])) rfl (by rw [hml]; rfl) (argsL := [(.int (104 : Int32))]) (rest := []) (lenOf (by decide +kernel : parseMethodDescriptor "(C)Lcom/example/lubeck/lubeck/policy/DurationUnit;" = some ⟨[.char], some (.object "com/example/lubeck/lubeck/policy/DurationUnit")⟩) rfl) rfl (by show 2 * 0 + _ ≤ _; exact Nat.le_of_eq rfl) (hb hby at_61) (fun _ _ => ⟨rfl, e72, (by decide : 0 + 1 ≤ _), (by decide : 0 + 4 ≤ _)⟩)
        dsimp only [Pt.U, Pt.locs, Pt.cells, Pt.slots] at X78 l81 y82 z83 st84 hQ80
        subst l81 y82 z83
        obtain ⟨rfl, N85⟩ := hQ80
        have N87 := Fr.app N73 N85
        refine own_bk (S' := (T74.setTop (mkF m 64 #[iv v0, iv v1, iv (v0 &&& (7 : Int32)), iv (104 : Int32), rv r_HOUR, .unset] [(.ref r_HOUR)]))) st84 ?_
        refine own_bk (S' := (T74.setTop (mkF m 66 #[iv v0, iv v1, iv (v0 &&& (7 : Int32)), iv (104 : Int32), rv r_HOUR, rv r_HOUR] []))) (fun t_ kont => XS.astore X78.here hx rfl (hb hby at_64) rfl rfl (l' := #[iv v0, iv v1, iv (v0 &&& (7 : Int32)), iv (104 : Int32), rv r_HOUR, rv r_HOUR]) rfl kont) ?_
        refine own_bk (S' := (T74.setTop (mkF m 68 #[iv v0, iv v1, iv (v0 &&& (7 : Int32)), iv (104 : Int32), rv r_HOUR, rv r_HOUR] [(.ref r_HOUR)]))) (fun t_ kont => XS.aload X78.here hx rfl (hb hby at_66) rfl rfl kont) ?_
        refine own_bk (S' := (T74.setTop (mkF m 70 #[iv v0, iv v1, iv (v0 &&& (7 : Int32)), iv (104 : Int32), rv r_HOUR, rv r_HOUR] [(.ref r_HOUR), (.ref r_HOUR)]))) (fun t_ kont => XS.aload X78.here hx rfl (hb hby at_68) rfl rfl kont) ?_
        refine own_bk (S' := (T74.setTop (mkF m 73 #[iv v0, iv v1, iv (v0 &&& (7 : Int32)), iv (104 : Int32), rv r_HOUR, rv r_HOUR] []))) (fun t_ kont => Jvm.RoadKit.acmp (g := (mkF m 70 #[iv v0, iv v1, iv (v0 &&& (7 : Int32)), iv (104 : Int32), rv r_HOUR, rv r_HOUR] [(.ref r_HOUR), (.ref r_HOUR)])) X78 hx rfl rfl rfl (pc0 := 70) (pc' := 73) (same := true) rfl (hb hby at_70) rfl (decide_eq_true rfl) (by decide) (by decide) kont) ?_
        refine own_bk (S' := (T74.setTop (mkF m 74 #[iv v0, iv v1, iv (v0 &&& (7 : Int32)), iv (104 : Int32), rv r_HOUR, rv r_HOUR] [(.int (1 : Int32))]))) (fun t_ kont => XS.iconst X78.here hx rfl (hb hby at_73) kont) ?_
        refine own_bk (S' := (T74.setTop (mkF m 78 #[iv v0, iv v1, iv (v0 &&& (7 : Int32)), iv (104 : Int32), rv r_HOUR, rv r_HOUR] [(.int (1 : Int32))]))) (fun t_ kont => XS.goto X78.here hx rfl (pc0 := 74) (pc' := 78) rfl (hb hby at_74) (by decide) (by decide) kont) ?_
        exact own_retN X78 hx hlk (t := .boolean) (w := (1 : Int32)) Bd.returns (by simp) (hb hby at_78) rfl ⟨rfl, N87⟩ (by decide) (by decide)
      · refine own_bk (S' := (s₁.setTop (mkF m 37 #[iv v0, iv v1, iv (v0 &&& (7 : Int32)), .unset, .unset, .unset] []))) (fun t_ kont => XS.icmpYes X0.here hx rfl (pc0 := 28) (pc' := 37) rfl (hb hby at_28) rfl (feq (hc59)).2 (by decide) (by decide) kont) ?_
        refine own_bk (S' := (s₁.setTop (mkF m 38 #[iv v0, iv v1, iv (v0 &&& (7 : Int32)), .unset, .unset, .unset] [(.int (v0 &&& (7 : Int32)))]))) (fun t_ kont => XS.iloadN X0.here hx rfl (hb hby at_37) rfl kont) ?_
        refine own_bk (S' := (s₁.setTop (mkF m 39 #[iv v0, iv v1, iv (v0 &&& (7 : Int32)), .unset, .unset, .unset] [(.int (3 : Int32)), (.int (v0 &&& (7 : Int32)))]))) (fun t_ kont => XS.iconst X0.here hx rfl (hb hby at_38) kont) ?_
        by_cases hc88 : ((v0 &&& (7 : Int32))) = ((3 : Int32))
        · refine own_bk (S' := (s₁.setTop (mkF m 42 #[iv v0, iv v1, iv (v0 &&& (7 : Int32)), .unset, .unset, .unset] []))) (fun t_ kont => XS.icmpNo X0.here hx rfl (hb hby at_39) rfl (teq (hc88)).2 kont) ?_
          refine own_bk (S' := (s₁.setTop (mkF m 44 #[iv v0, iv v1, iv (v0 &&& (7 : Int32)), .unset, .unset, .unset] [(.int (100 : Int32))]))) (fun t_ kont => XS.bipush X0.here hx rfl (hb hby at_42) kont) ?_
          refine own_bk (S' := (s₁.setTop (mkF m 45 #[iv v0, iv v1, iv (v0 &&& (7 : Int32)), iv (100 : Int32), .unset, .unset] []))) (fun t_ kont => XS.istoreN X0.here hx rfl (hb hby at_44) rfl (l' := #[iv v0, iv v1, iv (v0 &&& (7 : Int32)), iv (100 : Int32), .unset, .unset]) rfl kont) ?_
          refine own_bk (S' := (s₁.setTop (mkF m 54 #[iv v0, iv v1, iv (v0 &&& (7 : Int32)), iv (100 : Int32), .unset, .unset] []))) (fun t_ kont => XS.goto X0.here hx rfl (pc0 := 45) (pc' := 54) rfl (hb hby at_45) (by decide) (by decide) kont) ?_
          refine own_bk (S' := (s₁.setTop (mkF m 55 #[iv v0, iv v1, iv (v0 &&& (7 : Int32)), iv (100 : Int32), .unset, .unset] [(.int (100 : Int32))]))) (fun t_ kont => XS.iloadN X0.here hx rfl (hb hby at_54) rfl kont) ?_
          obtain ⟨_, _, ⟨T89, L90, k91, n92⟩, -, X93, ⟨Lc94, hQ95, l96, y97, z98⟩, st99⟩ := Jvm.LawKit.callS X0 hx (y := (⟨"com/example/lubeck/lubeck/policy/DurationUnitOfPinLaw", "expectedOf", "(C)Lcom/example/lubeck/lubeck/policy/DurationUnit;"⟩ : MethodName)) hown (mvT hZ (hw _ (List.mem_of_getElem? (i := 0) rfl))) (mvT hZ (hw _ (List.mem_of_getElem? (i := 1) rfl))) (mvT hZ (hw _ (List.mem_of_getElem? (i := 2) rfl))) (mvT hZ (hw _ (List.mem_of_getElem? (i := 3) rfl))) (by decide) (backOf (W := 0) (rm1 l Z a0 hw [] (100 : Int32) r_SECOND r_MINUTE r_HOUR r_DAY (.ref r_DAY) h0 n0 Z0 (S_SECOND.ext O.2) (S_MINUTE.ext O.2) (S_HOUR.ext O.2) (S_DAY.ext O.2) rfl) hZ (hw _ (List.mem_of_getElem? (i := 3) rfl)) (hw _ (List.mem_of_getElem? (i := 2) rfl)) (by decide) (by decide)) (g := (mkF m 55 #[iv v0, iv v1, iv (v0 &&& (7 : Int32)), iv (100 : Int32), .unset, .unset] [(.int (100 : Int32))])) rfl (by rw [hml]; rfl) (argsL := [(.int (100 : Int32))]) (rest := []) (lenOf (by decide +kernel : parseMethodDescriptor "(C)Lcom/example/lubeck/lubeck/policy/DurationUnit;" = some ⟨[.char], some (.object "com/example/lubeck/lubeck/policy/DurationUnit")⟩) rfl) rfl (by show 2 * 0 + _ ≤ _; exact Nat.le_of_eq rfl) (hb hby at_55) (fun _ _ => ⟨rfl, e0, (by decide : 0 + 0 ≤ _), (by decide : 0 + 0 ≤ _)⟩)
          dsimp only [Pt.U, Pt.locs, Pt.cells, Pt.slots] at X93 l96 y97 z98 st99 hQ95
          subst l96 y97 z98
          obtain ⟨rfl, N100, e101⟩ := hQ95
          have N102 := Fr.app N0 N100
          refine own_bk (S' := (T89.setTop (mkF m 58 #[iv v0, iv v1, iv (v0 &&& (7 : Int32)), iv (100 : Int32), .unset, .unset] [(.ref r_DAY)]))) st99 ?_
          refine own_bk (S' := (T89.setTop (mkF m 60 #[iv v0, iv v1, iv (v0 &&& (7 : Int32)), iv (100 : Int32), rv r_DAY, .unset] []))) (fun t_ kont => XS.astore X93.here hx rfl (hb hby at_58) rfl rfl (l' := #[iv v0, iv v1, iv (v0 &&& (7 : Int32)), iv (100 : Int32), rv r_DAY, .unset]) rfl kont) ?_
          refine own_bk (S' := (T89.setTop (mkF m 61 #[iv v0, iv v1, iv (v0 &&& (7 : Int32)), iv (100 : Int32), rv r_DAY, .unset] [(.int (100 : Int32))]))) (fun t_ kont => XS.iloadN X93.here hx rfl (hb hby at_60) rfl kont) ?_
          obtain ⟨_, _, ⟨T103, L104, k105, n106⟩, -, X107, ⟨Lc108, hQ109, l110, y111, z112⟩, st113⟩ := Jvm.LawKit.callS X93 hx (y := (⟨"com/example/lubeck/lubeck/policy/DurationUnit", "of", "(C)Lcom/example/lubeck/lubeck/policy/DurationUnit;"⟩ : MethodName)) hown (mvT hZ (hw _ (List.mem_of_getElem? (i := 7) rfl))) (mvT hZ (hw _ (List.mem_of_getElem? (i := 8) rfl))) (mvT hZ (hw _ (List.mem_of_getElem? (i := 5) rfl))) (mvT hZ (hw _ (List.mem_of_getElem? (i := 9) rfl))) (by decide) (backOf (W := 0) (rm2 l Z a0 hw [] (100 : Int32) rV kV r_SECOND r_MINUTE r_HOUR r_DAY (.ref r_DAY) h0 n0 Z0 O SV AV EV F_SECOND F_MINUTE F_HOUR F_DAY rfl) hZ (hw _ (List.mem_of_getElem? (i := 9) rfl)) (hw _ (List.mem_of_getElem? (i := 5) rfl)) (by decide) (by decide)) (g := (mkF m 61 #[iv v0, iv v1, iv (v0 &&& (7 : Int32)), iv (100 : Int32), rv r_DAY, .unset] [(.int (100 : Int32))])) rfl (by rw [hml]; rfl) (argsL := [(.int (100 : Int32))]) (rest := []) (lenOf (by decide +kernel : parseMethodDescriptor "(C)Lcom/example/lubeck/lubeck/policy/DurationUnit;" = some ⟨[.char], some (.object "com/example/lubeck/lubeck/policy/DurationUnit")⟩) rfl) rfl (by show 2 * 0 + _ ≤ _; exact Nat.le_of_eq rfl) (hb hby at_61) (fun _ _ => ⟨rfl, e101, (by decide : 0 + 1 ≤ _), (by decide : 0 + 4 ≤ _)⟩)
          dsimp only [Pt.U, Pt.locs, Pt.cells, Pt.slots] at X107 l110 y111 z112 st113 hQ109
          subst l110 y111 z112
          obtain ⟨rfl, N114⟩ := hQ109
          have N116 := Fr.app N102 N114
          refine own_bk (S' := (T103.setTop (mkF m 64 #[iv v0, iv v1, iv (v0 &&& (7 : Int32)), iv (100 : Int32), rv r_DAY, .unset] [(.ref r_DAY)]))) st113 ?_
          refine own_bk (S' := (T103.setTop (mkF m 66 #[iv v0, iv v1, iv (v0 &&& (7 : Int32)), iv (100 : Int32), rv r_DAY, rv r_DAY] []))) (fun t_ kont => XS.astore X107.here hx rfl (hb hby at_64) rfl rfl (l' := #[iv v0, iv v1, iv (v0 &&& (7 : Int32)), iv (100 : Int32), rv r_DAY, rv r_DAY]) rfl kont) ?_
          refine own_bk (S' := (T103.setTop (mkF m 68 #[iv v0, iv v1, iv (v0 &&& (7 : Int32)), iv (100 : Int32), rv r_DAY, rv r_DAY] [(.ref r_DAY)]))) (fun t_ kont => XS.aload X107.here hx rfl (hb hby at_66) rfl rfl kont) ?_
          refine own_bk (S' := (T103.setTop (mkF m 70 #[iv v0, iv v1, iv (v0 &&& (7 : Int32)), iv (100 : Int32), rv r_DAY, rv r_DAY] [(.ref r_DAY), (.ref r_DAY)]))) (fun t_ kont => XS.aload X107.here hx rfl (hb hby at_68) rfl rfl kont) ?_
          refine own_bk (S' := (T103.setTop (mkF m 73 #[iv v0, iv v1, iv (v0 &&& (7 : Int32)), iv (100 : Int32), rv r_DAY, rv r_DAY] []))) (fun t_ kont => Jvm.RoadKit.acmp (g := (mkF m 70 #[iv v0, iv v1, iv (v0 &&& (7 : Int32)), iv (100 : Int32), rv r_DAY, rv r_DAY] [(.ref r_DAY), (.ref r_DAY)])) X107 hx rfl rfl rfl (pc0 := 70) (pc' := 73) (same := true) rfl (hb hby at_70) rfl (decide_eq_true rfl) (by decide) (by decide) kont) ?_
          refine own_bk (S' := (T103.setTop (mkF m 74 #[iv v0, iv v1, iv (v0 &&& (7 : Int32)), iv (100 : Int32), rv r_DAY, rv r_DAY] [(.int (1 : Int32))]))) (fun t_ kont => XS.iconst X107.here hx rfl (hb hby at_73) kont) ?_
          refine own_bk (S' := (T103.setTop (mkF m 78 #[iv v0, iv v1, iv (v0 &&& (7 : Int32)), iv (100 : Int32), rv r_DAY, rv r_DAY] [(.int (1 : Int32))]))) (fun t_ kont => XS.goto X107.here hx rfl (pc0 := 74) (pc' := 78) rfl (hb hby at_74) (by decide) (by decide) kont) ?_
          exact own_retN X107 hx hlk (t := .boolean) (w := (1 : Int32)) Bd.returns (by simp) (hb hby at_78) rfl ⟨rfl, N116⟩ (by decide) (by decide)
        · refine own_bk (S' := (s₁.setTop (mkF m 48 #[iv v0, iv v1, iv (v0 &&& (7 : Int32)), .unset, .unset, .unset] []))) (fun t_ kont => XS.icmpYes X0.here hx rfl (pc0 := 39) (pc' := 48) rfl (hb hby at_39) rfl (feq (hc88)).2 (by decide) (by decide) kont) ?_
          refine own_bk (S' := (s₁.setTop (mkF m 49 #[iv v0, iv v1, iv (v0 &&& (7 : Int32)), .unset, .unset, .unset] [(.int v1)]))) (fun t_ kont => XS.iloadN X0.here hx rfl (hb hby at_48) rfl kont) ?_
          refine own_bk (S' := (s₁.setTop (mkF m 51 #[iv v0, iv v1, iv (v0 &&& (7 : Int32)), .unset, .unset, .unset] [(.int (65535 : Int32)), (.int v1)]))) (fun t_ kont => X0.ldcI hx hown (mvT hZ (hw _ (List.mem_of_getElem? (i := 30) rfl))) rfl (hb hby at_49) kont) ?_
          refine own_bk (S' := (s₁.setTop (mkF m 52 #[iv v0, iv v1, iv (v0 &&& (7 : Int32)), .unset, .unset, .unset] [(.int (v1 &&& (65535 : Int32)))]))) (fun t_ kont => XS.iand X0.here hx rfl (hb hby at_51) rfl kont) ?_
          refine own_bk (S' := (s₁.setTop (mkF m 53 #[iv v0, iv v1, iv (v0 &&& (7 : Int32)), .unset, .unset, .unset] [(.int ((v1 &&& (65535 : Int32)).toUInt32.toUInt16.toUInt32.toInt32))]))) (fun t_ kont => XS.i2c X0.here hx rfl (hb hby at_52) rfl kont) ?_
          refine own_bk (S' := (s₁.setTop (mkF m 54 #[iv v0, iv v1, iv (v0 &&& (7 : Int32)), iv ((v1 &&& (65535 : Int32)).toUInt32.toUInt16.toUInt32.toInt32), .unset, .unset] []))) (fun t_ kont => XS.istoreN X0.here hx rfl (hb hby at_53) rfl (l' := #[iv v0, iv v1, iv (v0 &&& (7 : Int32)), iv ((v1 &&& (65535 : Int32)).toUInt32.toUInt16.toUInt32.toInt32), .unset, .unset]) rfl kont) ?_
          generalize ((v1 &&& (65535 : Int32)).toUInt32.toUInt16.toUInt32.toInt32) = q
          by_cases hc117 : q = (115 : Int32)
          · subst hc117
            refine own_bk (S' := (s₁.setTop (mkF m 55 #[iv v0, iv v1, iv (v0 &&& (7 : Int32)), iv (115 : Int32), .unset, .unset] [(.int (115 : Int32))]))) (fun t_ kont => XS.iloadN X0.here hx rfl (hb hby at_54) rfl kont) ?_
            obtain ⟨_, _, ⟨T118, L119, k120, n121⟩, -, X122, ⟨Lc123, hQ124, l125, y126, z127⟩, st128⟩ := Jvm.LawKit.callS X0 hx (y := (⟨"com/example/lubeck/lubeck/policy/DurationUnitOfPinLaw", "expectedOf", "(C)Lcom/example/lubeck/lubeck/policy/DurationUnit;"⟩ : MethodName)) hown (mvT hZ (hw _ (List.mem_of_getElem? (i := 0) rfl))) (mvT hZ (hw _ (List.mem_of_getElem? (i := 1) rfl))) (mvT hZ (hw _ (List.mem_of_getElem? (i := 2) rfl))) (mvT hZ (hw _ (List.mem_of_getElem? (i := 3) rfl))) (by decide) (backOf (W := 0) (rm1 l Z a0 hw [] (115 : Int32) r_SECOND r_MINUTE r_HOUR r_DAY (.ref r_SECOND) h0 n0 Z0 (S_SECOND.ext O.2) (S_MINUTE.ext O.2) (S_HOUR.ext O.2) (S_DAY.ext O.2) rfl) hZ (hw _ (List.mem_of_getElem? (i := 3) rfl)) (hw _ (List.mem_of_getElem? (i := 2) rfl)) (by decide) (by decide)) (g := (mkF m 55 #[iv v0, iv v1, iv (v0 &&& (7 : Int32)), iv (115 : Int32), .unset, .unset] [(.int (115 : Int32))])) rfl (by rw [hml]; rfl) (argsL := [(.int (115 : Int32))]) (rest := []) (lenOf (by decide +kernel : parseMethodDescriptor "(C)Lcom/example/lubeck/lubeck/policy/DurationUnit;" = some ⟨[.char], some (.object "com/example/lubeck/lubeck/policy/DurationUnit")⟩) rfl) rfl (by show 2 * 0 + _ ≤ _; exact Nat.le_of_eq rfl) (hb hby at_55) (fun _ _ => ⟨rfl, e0, (by decide : 0 + 0 ≤ _), (by decide : 0 + 0 ≤ _)⟩)
            dsimp only [Pt.U, Pt.locs, Pt.cells, Pt.slots] at X122 l125 y126 z127 st128 hQ124
            subst l125 y126 z127
            obtain ⟨rfl, N129, e130⟩ := hQ124
            have N131 := Fr.app N0 N129
            refine own_bk (S' := (T118.setTop (mkF m 58 #[iv v0, iv v1, iv (v0 &&& (7 : Int32)), iv (115 : Int32), .unset, .unset] [(.ref r_SECOND)]))) st128 ?_
            refine own_bk (S' := (T118.setTop (mkF m 60 #[iv v0, iv v1, iv (v0 &&& (7 : Int32)), iv (115 : Int32), rv r_SECOND, .unset] []))) (fun t_ kont => XS.astore X122.here hx rfl (hb hby at_58) rfl rfl (l' := #[iv v0, iv v1, iv (v0 &&& (7 : Int32)), iv (115 : Int32), rv r_SECOND, .unset]) rfl kont) ?_
            refine own_bk (S' := (T118.setTop (mkF m 61 #[iv v0, iv v1, iv (v0 &&& (7 : Int32)), iv (115 : Int32), rv r_SECOND, .unset] [(.int (115 : Int32))]))) (fun t_ kont => XS.iloadN X122.here hx rfl (hb hby at_60) rfl kont) ?_
            obtain ⟨_, _, ⟨T132, L133, k134, n135⟩, -, X136, ⟨Lc137, hQ138, l139, y140, z141⟩, st142⟩ := Jvm.LawKit.callS X122 hx (y := (⟨"com/example/lubeck/lubeck/policy/DurationUnit", "of", "(C)Lcom/example/lubeck/lubeck/policy/DurationUnit;"⟩ : MethodName)) hown (mvT hZ (hw _ (List.mem_of_getElem? (i := 7) rfl))) (mvT hZ (hw _ (List.mem_of_getElem? (i := 8) rfl))) (mvT hZ (hw _ (List.mem_of_getElem? (i := 5) rfl))) (mvT hZ (hw _ (List.mem_of_getElem? (i := 9) rfl))) (by decide) (backOf (W := 0) (rm2 l Z a0 hw [] (115 : Int32) rV kV r_SECOND r_MINUTE r_HOUR r_DAY (.ref r_SECOND) h0 n0 Z0 O SV AV EV F_SECOND F_MINUTE F_HOUR F_DAY rfl) hZ (hw _ (List.mem_of_getElem? (i := 9) rfl)) (hw _ (List.mem_of_getElem? (i := 5) rfl)) (by decide) (by decide)) (g := (mkF m 61 #[iv v0, iv v1, iv (v0 &&& (7 : Int32)), iv (115 : Int32), rv r_SECOND, .unset] [(.int (115 : Int32))])) rfl (by rw [hml]; rfl) (argsL := [(.int (115 : Int32))]) (rest := []) (lenOf (by decide +kernel : parseMethodDescriptor "(C)Lcom/example/lubeck/lubeck/policy/DurationUnit;" = some ⟨[.char], some (.object "com/example/lubeck/lubeck/policy/DurationUnit")⟩) rfl) rfl (by show 2 * 0 + _ ≤ _; exact Nat.le_of_eq rfl) (hb hby at_61) (fun _ _ => ⟨rfl, e130, (by decide : 0 + 1 ≤ _), (by decide : 0 + 4 ≤ _)⟩)
            dsimp only [Pt.U, Pt.locs, Pt.cells, Pt.slots] at X136 l139 y140 z141 st142 hQ138
            subst l139 y140 z141
            obtain ⟨rfl, N143⟩ := hQ138
            have N145 := Fr.app N131 N143
            refine own_bk (S' := (T132.setTop (mkF m 64 #[iv v0, iv v1, iv (v0 &&& (7 : Int32)), iv (115 : Int32), rv r_SECOND, .unset] [(.ref r_SECOND)]))) st142 ?_
            refine own_bk (S' := (T132.setTop (mkF m 66 #[iv v0, iv v1, iv (v0 &&& (7 : Int32)), iv (115 : Int32), rv r_SECOND, rv r_SECOND] []))) (fun t_ kont => XS.astore X136.here hx rfl (hb hby at_64) rfl rfl (l' := #[iv v0, iv v1, iv (v0 &&& (7 : Int32)), iv (115 : Int32), rv r_SECOND, rv r_SECOND]) rfl kont) ?_
            refine own_bk (S' := (T132.setTop (mkF m 68 #[iv v0, iv v1, iv (v0 &&& (7 : Int32)), iv (115 : Int32), rv r_SECOND, rv r_SECOND] [(.ref r_SECOND)]))) (fun t_ kont => XS.aload X136.here hx rfl (hb hby at_66) rfl rfl kont) ?_
            refine own_bk (S' := (T132.setTop (mkF m 70 #[iv v0, iv v1, iv (v0 &&& (7 : Int32)), iv (115 : Int32), rv r_SECOND, rv r_SECOND] [(.ref r_SECOND), (.ref r_SECOND)]))) (fun t_ kont => XS.aload X136.here hx rfl (hb hby at_68) rfl rfl kont) ?_
            refine own_bk (S' := (T132.setTop (mkF m 73 #[iv v0, iv v1, iv (v0 &&& (7 : Int32)), iv (115 : Int32), rv r_SECOND, rv r_SECOND] []))) (fun t_ kont => Jvm.RoadKit.acmp (g := (mkF m 70 #[iv v0, iv v1, iv (v0 &&& (7 : Int32)), iv (115 : Int32), rv r_SECOND, rv r_SECOND] [(.ref r_SECOND), (.ref r_SECOND)])) X136 hx rfl rfl rfl (pc0 := 70) (pc' := 73) (same := true) rfl (hb hby at_70) rfl (decide_eq_true rfl) (by decide) (by decide) kont) ?_
            refine own_bk (S' := (T132.setTop (mkF m 74 #[iv v0, iv v1, iv (v0 &&& (7 : Int32)), iv (115 : Int32), rv r_SECOND, rv r_SECOND] [(.int (1 : Int32))]))) (fun t_ kont => XS.iconst X136.here hx rfl (hb hby at_73) kont) ?_
            refine own_bk (S' := (T132.setTop (mkF m 78 #[iv v0, iv v1, iv (v0 &&& (7 : Int32)), iv (115 : Int32), rv r_SECOND, rv r_SECOND] [(.int (1 : Int32))]))) (fun t_ kont => XS.goto X136.here hx rfl (pc0 := 74) (pc' := 78) rfl (hb hby at_74) (by decide) (by decide) kont) ?_
            exact own_retN X136 hx hlk (t := .boolean) (w := (1 : Int32)) Bd.returns (by simp) (hb hby at_78) rfl ⟨rfl, N145⟩ (by decide) (by decide)
          · by_cases hc146 : q = (109 : Int32)
            · subst hc146
              refine own_bk (S' := (s₁.setTop (mkF m 55 #[iv v0, iv v1, iv (v0 &&& (7 : Int32)), iv (109 : Int32), .unset, .unset] [(.int (109 : Int32))]))) (fun t_ kont => XS.iloadN X0.here hx rfl (hb hby at_54) rfl kont) ?_
              obtain ⟨_, _, ⟨T147, L148, k149, n150⟩, -, X151, ⟨Lc152, hQ153, l154, y155, z156⟩, st157⟩ := Jvm.LawKit.callS X0 hx (y := (⟨"com/example/lubeck/lubeck/policy/DurationUnitOfPinLaw", "expectedOf", "(C)Lcom/example/lubeck/lubeck/policy/DurationUnit;"⟩ : MethodName)) hown (mvT hZ (hw _ (List.mem_of_getElem? (i := 0) rfl))) (mvT hZ (hw _ (List.mem_of_getElem? (i := 1) rfl))) (mvT hZ (hw _ (List.mem_of_getElem? (i := 2) rfl))) (mvT hZ (hw _ (List.mem_of_getElem? (i := 3) rfl))) (by decide) (backOf (W := 0) (rm1 l Z a0 hw [] (109 : Int32) r_SECOND r_MINUTE r_HOUR r_DAY (.ref r_MINUTE) h0 n0 Z0 (S_SECOND.ext O.2) (S_MINUTE.ext O.2) (S_HOUR.ext O.2) (S_DAY.ext O.2) rfl) hZ (hw _ (List.mem_of_getElem? (i := 3) rfl)) (hw _ (List.mem_of_getElem? (i := 2) rfl)) (by decide) (by decide)) (g := (mkF m 55 #[iv v0, iv v1, iv (v0 &&& (7 : Int32)), iv (109 : Int32), .unset, .unset] [(.int (109 : Int32))])) rfl (by rw [hml]; rfl) (argsL := [(.int (109 : Int32))]) (rest := []) (lenOf (by decide +kernel : parseMethodDescriptor "(C)Lcom/example/lubeck/lubeck/policy/DurationUnit;" = some ⟨[.char], some (.object "com/example/lubeck/lubeck/policy/DurationUnit")⟩) rfl) rfl (by show 2 * 0 + _ ≤ _; exact Nat.le_of_eq rfl) (hb hby at_55) (fun _ _ => ⟨rfl, e0, (by decide : 0 + 0 ≤ _), (by decide : 0 + 0 ≤ _)⟩)
              dsimp only [Pt.U, Pt.locs, Pt.cells, Pt.slots] at X151 l154 y155 z156 st157 hQ153
              subst l154 y155 z156
              obtain ⟨rfl, N158, e159⟩ := hQ153
              have N160 := Fr.app N0 N158
              refine own_bk (S' := (T147.setTop (mkF m 58 #[iv v0, iv v1, iv (v0 &&& (7 : Int32)), iv (109 : Int32), .unset, .unset] [(.ref r_MINUTE)]))) st157 ?_
              refine own_bk (S' := (T147.setTop (mkF m 60 #[iv v0, iv v1, iv (v0 &&& (7 : Int32)), iv (109 : Int32), rv r_MINUTE, .unset] []))) (fun t_ kont => XS.astore X151.here hx rfl (hb hby at_58) rfl rfl (l' := #[iv v0, iv v1, iv (v0 &&& (7 : Int32)), iv (109 : Int32), rv r_MINUTE, .unset]) rfl kont) ?_
              refine own_bk (S' := (T147.setTop (mkF m 61 #[iv v0, iv v1, iv (v0 &&& (7 : Int32)), iv (109 : Int32), rv r_MINUTE, .unset] [(.int (109 : Int32))]))) (fun t_ kont => XS.iloadN X151.here hx rfl (hb hby at_60) rfl kont) ?_
              obtain ⟨_, _, ⟨T161, L162, k163, n164⟩, -, X165, ⟨Lc166, hQ167, l168, y169, z170⟩, st171⟩ := Jvm.LawKit.callS X151 hx (y := (⟨"com/example/lubeck/lubeck/policy/DurationUnit", "of", "(C)Lcom/example/lubeck/lubeck/policy/DurationUnit;"⟩ : MethodName)) hown (mvT hZ (hw _ (List.mem_of_getElem? (i := 7) rfl))) (mvT hZ (hw _ (List.mem_of_getElem? (i := 8) rfl))) (mvT hZ (hw _ (List.mem_of_getElem? (i := 5) rfl))) (mvT hZ (hw _ (List.mem_of_getElem? (i := 9) rfl))) (by decide) (backOf (W := 0) (rm2 l Z a0 hw [] (109 : Int32) rV kV r_SECOND r_MINUTE r_HOUR r_DAY (.ref r_MINUTE) h0 n0 Z0 O SV AV EV F_SECOND F_MINUTE F_HOUR F_DAY rfl) hZ (hw _ (List.mem_of_getElem? (i := 9) rfl)) (hw _ (List.mem_of_getElem? (i := 5) rfl)) (by decide) (by decide)) (g := (mkF m 61 #[iv v0, iv v1, iv (v0 &&& (7 : Int32)), iv (109 : Int32), rv r_MINUTE, .unset] [(.int (109 : Int32))])) rfl (by rw [hml]; rfl) (argsL := [(.int (109 : Int32))]) (rest := []) (lenOf (by decide +kernel : parseMethodDescriptor "(C)Lcom/example/lubeck/lubeck/policy/DurationUnit;" = some ⟨[.char], some (.object "com/example/lubeck/lubeck/policy/DurationUnit")⟩) rfl) rfl (by show 2 * 0 + _ ≤ _; exact Nat.le_of_eq rfl) (hb hby at_61) (fun _ _ => ⟨rfl, e159, (by decide : 0 + 1 ≤ _), (by decide : 0 + 4 ≤ _)⟩)
              dsimp only [Pt.U, Pt.locs, Pt.cells, Pt.slots] at X165 l168 y169 z170 st171 hQ167
              subst l168 y169 z170
              obtain ⟨rfl, N172⟩ := hQ167
              have N174 := Fr.app N160 N172
              refine own_bk (S' := (T161.setTop (mkF m 64 #[iv v0, iv v1, iv (v0 &&& (7 : Int32)), iv (109 : Int32), rv r_MINUTE, .unset] [(.ref r_MINUTE)]))) st171 ?_
              refine own_bk (S' := (T161.setTop (mkF m 66 #[iv v0, iv v1, iv (v0 &&& (7 : Int32)), iv (109 : Int32), rv r_MINUTE, rv r_MINUTE] []))) (fun t_ kont => XS.astore X165.here hx rfl (hb hby at_64) rfl rfl (l' := #[iv v0, iv v1, iv (v0 &&& (7 : Int32)), iv (109 : Int32), rv r_MINUTE, rv r_MINUTE]) rfl kont) ?_
              refine own_bk (S' := (T161.setTop (mkF m 68 #[iv v0, iv v1, iv (v0 &&& (7 : Int32)), iv (109 : Int32), rv r_MINUTE, rv r_MINUTE] [(.ref r_MINUTE)]))) (fun t_ kont => XS.aload X165.here hx rfl (hb hby at_66) rfl rfl kont) ?_
              refine own_bk (S' := (T161.setTop (mkF m 70 #[iv v0, iv v1, iv (v0 &&& (7 : Int32)), iv (109 : Int32), rv r_MINUTE, rv r_MINUTE] [(.ref r_MINUTE), (.ref r_MINUTE)]))) (fun t_ kont => XS.aload X165.here hx rfl (hb hby at_68) rfl rfl kont) ?_
              refine own_bk (S' := (T161.setTop (mkF m 73 #[iv v0, iv v1, iv (v0 &&& (7 : Int32)), iv (109 : Int32), rv r_MINUTE, rv r_MINUTE] []))) (fun t_ kont => Jvm.RoadKit.acmp (g := (mkF m 70 #[iv v0, iv v1, iv (v0 &&& (7 : Int32)), iv (109 : Int32), rv r_MINUTE, rv r_MINUTE] [(.ref r_MINUTE), (.ref r_MINUTE)])) X165 hx rfl rfl rfl (pc0 := 70) (pc' := 73) (same := true) rfl (hb hby at_70) rfl (decide_eq_true rfl) (by decide) (by decide) kont) ?_
              refine own_bk (S' := (T161.setTop (mkF m 74 #[iv v0, iv v1, iv (v0 &&& (7 : Int32)), iv (109 : Int32), rv r_MINUTE, rv r_MINUTE] [(.int (1 : Int32))]))) (fun t_ kont => XS.iconst X165.here hx rfl (hb hby at_73) kont) ?_
              refine own_bk (S' := (T161.setTop (mkF m 78 #[iv v0, iv v1, iv (v0 &&& (7 : Int32)), iv (109 : Int32), rv r_MINUTE, rv r_MINUTE] [(.int (1 : Int32))]))) (fun t_ kont => XS.goto X165.here hx rfl (pc0 := 74) (pc' := 78) rfl (hb hby at_74) (by decide) (by decide) kont) ?_
              exact own_retN X165 hx hlk (t := .boolean) (w := (1 : Int32)) Bd.returns (by simp) (hb hby at_78) rfl ⟨rfl, N174⟩ (by decide) (by decide)
            · by_cases hc175 : q = (104 : Int32)
              · subst hc175
                refine own_bk (S' := (s₁.setTop (mkF m 55 #[iv v0, iv v1, iv (v0 &&& (7 : Int32)), iv (104 : Int32), .unset, .unset] [(.int (104 : Int32))]))) (fun t_ kont => XS.iloadN X0.here hx rfl (hb hby at_54) rfl kont) ?_
                obtain ⟨_, _, ⟨T176, L177, k178, n179⟩, -, X180, ⟨Lc181, hQ182, l183, y184, z185⟩, st186⟩ := Jvm.LawKit.callS X0 hx (y := (⟨"com/example/lubeck/lubeck/policy/DurationUnitOfPinLaw", "expectedOf", "(C)Lcom/example/lubeck/lubeck/policy/DurationUnit;"⟩ : MethodName)) hown (mvT hZ (hw _ (List.mem_of_getElem? (i := 0) rfl))) (mvT hZ (hw _ (List.mem_of_getElem? (i := 1) rfl))) (mvT hZ (hw _ (List.mem_of_getElem? (i := 2) rfl))) (mvT hZ (hw _ (List.mem_of_getElem? (i := 3) rfl))) (by decide) (backOf (W := 0) (rm1 l Z a0 hw [] (104 : Int32) r_SECOND r_MINUTE r_HOUR r_DAY (.ref r_HOUR) h0 n0 Z0 (S_SECOND.ext O.2) (S_MINUTE.ext O.2) (S_HOUR.ext O.2) (S_DAY.ext O.2) rfl) hZ (hw _ (List.mem_of_getElem? (i := 3) rfl)) (hw _ (List.mem_of_getElem? (i := 2) rfl)) (by decide) (by decide)) (g := (mkF m 55 #[iv v0, iv v1, iv (v0 &&& (7 : Int32)), iv (104 : Int32), .unset, .unset] [(.int (104 : Int32))])) rfl (by rw [hml]; rfl) (argsL := [(.int (104 : Int32))]) (rest := []) (lenOf (by decide +kernel : parseMethodDescriptor "(C)Lcom/example/lubeck/lubeck/policy/DurationUnit;" = some ⟨[.char], some (.object "com/example/lubeck/lubeck/policy/DurationUnit")⟩) rfl) rfl (by show 2 * 0 + _ ≤ _; exact Nat.le_of_eq rfl) (hb hby at_55) (fun _ _ => ⟨rfl, e0, (by decide : 0 + 0 ≤ _), (by decide : 0 + 0 ≤ _)⟩)
                dsimp only [Pt.U, Pt.locs, Pt.cells, Pt.slots] at X180 l183 y184 z185 st186 hQ182
                subst l183 y184 z185
                obtain ⟨rfl, N187, e188⟩ := hQ182
                have N189 := Fr.app N0 N187
                refine own_bk (S' := (T176.setTop (mkF m 58 #[iv v0, iv v1, iv (v0 &&& (7 : Int32)), iv (104 : Int32), .unset, .unset] [(.ref r_HOUR)]))) st186 ?_
                refine own_bk (S' := (T176.setTop (mkF m 60 #[iv v0, iv v1, iv (v0 &&& (7 : Int32)), iv (104 : Int32), rv r_HOUR, .unset] []))) (fun t_ kont => XS.astore X180.here hx rfl (hb hby at_58) rfl rfl (l' := #[iv v0, iv v1, iv (v0 &&& (7 : Int32)), iv (104 : Int32), rv r_HOUR, .unset]) rfl kont) ?_
                refine own_bk (S' := (T176.setTop (mkF m 61 #[iv v0, iv v1, iv (v0 &&& (7 : Int32)), iv (104 : Int32), rv r_HOUR, .unset] [(.int (104 : Int32))]))) (fun t_ kont => XS.iloadN X180.here hx rfl (hb hby at_60) rfl kont) ?_
                obtain ⟨_, _, ⟨T190, L191, k192, n193⟩, -, X194, ⟨Lc195, hQ196, l197, y198, z199⟩, st200⟩ := Jvm.LawKit.callS X180 hx (y := (⟨"com/example/lubeck/lubeck/policy/DurationUnit", "of", "(C)Lcom/example/lubeck/lubeck/policy/DurationUnit;"⟩ : MethodName)) hown (mvT hZ (hw _ (List.mem_of_getElem? (i := 7) rfl))) (mvT hZ (hw _ (List.mem_of_getElem? (i := 8) rfl))) (mvT hZ (hw _ (List.mem_of_getElem? (i := 5) rfl))) (mvT hZ (hw _ (List.mem_of_getElem? (i := 9) rfl))) (by decide) (backOf (W := 0) (rm2 l Z a0 hw [] (104 : Int32) rV kV r_SECOND r_MINUTE r_HOUR r_DAY (.ref r_HOUR) h0 n0 Z0 O SV AV EV F_SECOND F_MINUTE F_HOUR F_DAY rfl) hZ (hw _ (List.mem_of_getElem? (i := 9) rfl)) (hw _ (List.mem_of_getElem? (i := 5) rfl)) (by decide) (by decide)) (g := (mkF m 61 #[iv v0, iv v1, iv (v0 &&& (7 : Int32)), iv (104 : Int32), rv r_HOUR, .unset] [(.int (104 : Int32))])) rfl (by rw [hml]; rfl) (argsL := [(.int (104 : Int32))]) (rest := []) (lenOf (by decide +kernel : parseMethodDescriptor "(C)Lcom/example/lubeck/lubeck/policy/DurationUnit;" = some ⟨[.char], some (.object "com/example/lubeck/lubeck/policy/DurationUnit")⟩) rfl) rfl (by show 2 * 0 + _ ≤ _; exact Nat.le_of_eq rfl) (hb hby at_61) (fun _ _ => ⟨rfl, e188, (by decide : 0 + 1 ≤ _), (by decide : 0 + 4 ≤ _)⟩)
                dsimp only [Pt.U, Pt.locs, Pt.cells, Pt.slots] at X194 l197 y198 z199 st200 hQ196
                subst l197 y198 z199
                obtain ⟨rfl, N201⟩ := hQ196
                have N203 := Fr.app N189 N201
                refine own_bk (S' := (T190.setTop (mkF m 64 #[iv v0, iv v1, iv (v0 &&& (7 : Int32)), iv (104 : Int32), rv r_HOUR, .unset] [(.ref r_HOUR)]))) st200 ?_
                refine own_bk (S' := (T190.setTop (mkF m 66 #[iv v0, iv v1, iv (v0 &&& (7 : Int32)), iv (104 : Int32), rv r_HOUR, rv r_HOUR] []))) (fun t_ kont => XS.astore X194.here hx rfl (hb hby at_64) rfl rfl (l' := #[iv v0, iv v1, iv (v0 &&& (7 : Int32)), iv (104 : Int32), rv r_HOUR, rv r_HOUR]) rfl kont) ?_
                refine own_bk (S' := (T190.setTop (mkF m 68 #[iv v0, iv v1, iv (v0 &&& (7 : Int32)), iv (104 : Int32), rv r_HOUR, rv r_HOUR] [(.ref r_HOUR)]))) (fun t_ kont => XS.aload X194.here hx rfl (hb hby at_66) rfl rfl kont) ?_
                refine own_bk (S' := (T190.setTop (mkF m 70 #[iv v0, iv v1, iv (v0 &&& (7 : Int32)), iv (104 : Int32), rv r_HOUR, rv r_HOUR] [(.ref r_HOUR), (.ref r_HOUR)]))) (fun t_ kont => XS.aload X194.here hx rfl (hb hby at_68) rfl rfl kont) ?_
                refine own_bk (S' := (T190.setTop (mkF m 73 #[iv v0, iv v1, iv (v0 &&& (7 : Int32)), iv (104 : Int32), rv r_HOUR, rv r_HOUR] []))) (fun t_ kont => Jvm.RoadKit.acmp (g := (mkF m 70 #[iv v0, iv v1, iv (v0 &&& (7 : Int32)), iv (104 : Int32), rv r_HOUR, rv r_HOUR] [(.ref r_HOUR), (.ref r_HOUR)])) X194 hx rfl rfl rfl (pc0 := 70) (pc' := 73) (same := true) rfl (hb hby at_70) rfl (decide_eq_true rfl) (by decide) (by decide) kont) ?_
                refine own_bk (S' := (T190.setTop (mkF m 74 #[iv v0, iv v1, iv (v0 &&& (7 : Int32)), iv (104 : Int32), rv r_HOUR, rv r_HOUR] [(.int (1 : Int32))]))) (fun t_ kont => XS.iconst X194.here hx rfl (hb hby at_73) kont) ?_
                refine own_bk (S' := (T190.setTop (mkF m 78 #[iv v0, iv v1, iv (v0 &&& (7 : Int32)), iv (104 : Int32), rv r_HOUR, rv r_HOUR] [(.int (1 : Int32))]))) (fun t_ kont => XS.goto X194.here hx rfl (pc0 := 74) (pc' := 78) rfl (hb hby at_74) (by decide) (by decide) kont) ?_
                exact own_retN X194 hx hlk (t := .boolean) (w := (1 : Int32)) Bd.returns (by simp) (hb hby at_78) rfl ⟨rfl, N203⟩ (by decide) (by decide)
              · by_cases hc204 : q = (100 : Int32)
                · subst hc204
                  refine own_bk (S' := (s₁.setTop (mkF m 55 #[iv v0, iv v1, iv (v0 &&& (7 : Int32)), iv (100 : Int32), .unset, .unset] [(.int (100 : Int32))]))) (fun t_ kont => XS.iloadN X0.here hx rfl (hb hby at_54) rfl kont) ?_
                  obtain ⟨_, _, ⟨T205, L206, k207, n208⟩, -, X209, ⟨Lc210, hQ211, l212, y213, z214⟩, st215⟩ := Jvm.LawKit.callS X0 hx (y := (⟨"com/example/lubeck/lubeck/policy/DurationUnitOfPinLaw", "expectedOf", "(C)Lcom/example/lubeck/lubeck/policy/DurationUnit;"⟩ : MethodName)) hown (mvT hZ (hw _ (List.mem_of_getElem? (i := 0) rfl))) (mvT hZ (hw _ (List.mem_of_getElem? (i := 1) rfl))) (mvT hZ (hw _ (List.mem_of_getElem? (i := 2) rfl))) (mvT hZ (hw _ (List.mem_of_getElem? (i := 3) rfl))) (by decide) (backOf (W := 0) (rm1 l Z a0 hw [] (100 : Int32) r_SECOND r_MINUTE r_HOUR r_DAY (.ref r_DAY) h0 n0 Z0 (S_SECOND.ext O.2) (S_MINUTE.ext O.2) (S_HOUR.ext O.2) (S_DAY.ext O.2) rfl) hZ (hw _ (List.mem_of_getElem? (i := 3) rfl)) (hw _ (List.mem_of_getElem? (i := 2) rfl)) (by decide) (by decide)) (g := (mkF m 55 #[iv v0, iv v1, iv (v0 &&& (7 : Int32)), iv (100 : Int32), .unset, .unset] [(.int (100 : Int32))])) rfl (by rw [hml]; rfl) (argsL := [(.int (100 : Int32))]) (rest := []) (lenOf (by decide +kernel : parseMethodDescriptor "(C)Lcom/example/lubeck/lubeck/policy/DurationUnit;" = some ⟨[.char], some (.object "com/example/lubeck/lubeck/policy/DurationUnit")⟩) rfl) rfl (by show 2 * 0 + _ ≤ _; exact Nat.le_of_eq rfl) (hb hby at_55) (fun _ _ => ⟨rfl, e0, (by decide : 0 + 0 ≤ _), (by decide : 0 + 0 ≤ _)⟩)
                  dsimp only [Pt.U, Pt.locs, Pt.cells, Pt.slots] at X209 l212 y213 z214 st215 hQ211
                  subst l212 y213 z214
                  obtain ⟨rfl, N216, e217⟩ := hQ211
                  have N218 := Fr.app N0 N216
                  refine own_bk (S' := (T205.setTop (mkF m 58 #[iv v0, iv v1, iv (v0 &&& (7 : Int32)), iv (100 : Int32), .unset, .unset] [(.ref r_DAY)]))) st215 ?_
                  refine own_bk (S' := (T205.setTop (mkF m 60 #[iv v0, iv v1, iv (v0 &&& (7 : Int32)), iv (100 : Int32), rv r_DAY, .unset] []))) (fun t_ kont => XS.astore X209.here hx rfl (hb hby at_58) rfl rfl (l' := #[iv v0, iv v1, iv (v0 &&& (7 : Int32)), iv (100 : Int32), rv r_DAY, .unset]) rfl kont) ?_
                  refine own_bk (S' := (T205.setTop (mkF m 61 #[iv v0, iv v1, iv (v0 &&& (7 : Int32)), iv (100 : Int32), rv r_DAY, .unset] [(.int (100 : Int32))]))) (fun t_ kont => XS.iloadN X209.here hx rfl (hb hby at_60) rfl kont) ?_
                  obtain ⟨_, _, ⟨T219, L220, k221, n222⟩, -, X223, ⟨Lc224, hQ225, l226, y227, z228⟩, st229⟩ := Jvm.LawKit.callS X209 hx (y := (⟨"com/example/lubeck/lubeck/policy/DurationUnit", "of", "(C)Lcom/example/lubeck/lubeck/policy/DurationUnit;"⟩ : MethodName)) hown (mvT hZ (hw _ (List.mem_of_getElem? (i := 7) rfl))) (mvT hZ (hw _ (List.mem_of_getElem? (i := 8) rfl))) (mvT hZ (hw _ (List.mem_of_getElem? (i := 5) rfl))) (mvT hZ (hw _ (List.mem_of_getElem? (i := 9) rfl))) (by decide) (backOf (W := 0) (rm2 l Z a0 hw [] (100 : Int32) rV kV r_SECOND r_MINUTE r_HOUR r_DAY (.ref r_DAY) h0 n0 Z0 O SV AV EV F_SECOND F_MINUTE F_HOUR F_DAY rfl) hZ (hw _ (List.mem_of_getElem? (i := 9) rfl)) (hw _ (List.mem_of_getElem? (i := 5) rfl)) (by decide) (by decide)) (g := (mkF m 61 #[iv v0, iv v1, iv (v0 &&& (7 : Int32)), iv (100 : Int32), rv r_DAY, .unset] [(.int (100 : Int32))])) rfl (by rw [hml]; rfl) (argsL := [(.int (100 : Int32))]) (rest := []) (lenOf (by decide +kernel : parseMethodDescriptor "(C)Lcom/example/lubeck/lubeck/policy/DurationUnit;" = some ⟨[.char], some (.object "com/example/lubeck/lubeck/policy/DurationUnit")⟩) rfl) rfl (by show 2 * 0 + _ ≤ _; exact Nat.le_of_eq rfl) (hb hby at_61) (fun _ _ => ⟨rfl, e217, (by decide : 0 + 1 ≤ _), (by decide : 0 + 4 ≤ _)⟩)
                  dsimp only [Pt.U, Pt.locs, Pt.cells, Pt.slots] at X223 l226 y227 z228 st229 hQ225
                  subst l226 y227 z228
                  obtain ⟨rfl, N230⟩ := hQ225
                  have N232 := Fr.app N218 N230
                  refine own_bk (S' := (T219.setTop (mkF m 64 #[iv v0, iv v1, iv (v0 &&& (7 : Int32)), iv (100 : Int32), rv r_DAY, .unset] [(.ref r_DAY)]))) st229 ?_
                  refine own_bk (S' := (T219.setTop (mkF m 66 #[iv v0, iv v1, iv (v0 &&& (7 : Int32)), iv (100 : Int32), rv r_DAY, rv r_DAY] []))) (fun t_ kont => XS.astore X223.here hx rfl (hb hby at_64) rfl rfl (l' := #[iv v0, iv v1, iv (v0 &&& (7 : Int32)), iv (100 : Int32), rv r_DAY, rv r_DAY]) rfl kont) ?_
                  refine own_bk (S' := (T219.setTop (mkF m 68 #[iv v0, iv v1, iv (v0 &&& (7 : Int32)), iv (100 : Int32), rv r_DAY, rv r_DAY] [(.ref r_DAY)]))) (fun t_ kont => XS.aload X223.here hx rfl (hb hby at_66) rfl rfl kont) ?_
                  refine own_bk (S' := (T219.setTop (mkF m 70 #[iv v0, iv v1, iv (v0 &&& (7 : Int32)), iv (100 : Int32), rv r_DAY, rv r_DAY] [(.ref r_DAY), (.ref r_DAY)]))) (fun t_ kont => XS.aload X223.here hx rfl (hb hby at_68) rfl rfl kont) ?_
                  refine own_bk (S' := (T219.setTop (mkF m 73 #[iv v0, iv v1, iv (v0 &&& (7 : Int32)), iv (100 : Int32), rv r_DAY, rv r_DAY] []))) (fun t_ kont => Jvm.RoadKit.acmp (g := (mkF m 70 #[iv v0, iv v1, iv (v0 &&& (7 : Int32)), iv (100 : Int32), rv r_DAY, rv r_DAY] [(.ref r_DAY), (.ref r_DAY)])) X223 hx rfl rfl rfl (pc0 := 70) (pc' := 73) (same := true) rfl (hb hby at_70) rfl (decide_eq_true rfl) (by decide) (by decide) kont) ?_
                  refine own_bk (S' := (T219.setTop (mkF m 74 #[iv v0, iv v1, iv (v0 &&& (7 : Int32)), iv (100 : Int32), rv r_DAY, rv r_DAY] [(.int (1 : Int32))]))) (fun t_ kont => XS.iconst X223.here hx rfl (hb hby at_73) kont) ?_
                  refine own_bk (S' := (T219.setTop (mkF m 78 #[iv v0, iv v1, iv (v0 &&& (7 : Int32)), iv (100 : Int32), rv r_DAY, rv r_DAY] [(.int (1 : Int32))]))) (fun t_ kont => XS.goto X223.here hx rfl (pc0 := 74) (pc' := 78) rfl (hb hby at_74) (by decide) (by decide) kont) ?_
                  exact own_retN X223 hx hlk (t := .boolean) (w := (1 : Int32)) Bd.returns (by simp) (hb hby at_78) rfl ⟨rfl, N232⟩ (by decide) (by decide)
                · refine own_bk (S' := (s₁.setTop (mkF m 55 #[iv v0, iv v1, iv (v0 &&& (7 : Int32)), iv q, .unset, .unset] [(.int q)]))) (fun t_ kont => XS.iloadN X0.here hx rfl (hb hby at_54) rfl kont) ?_
                  obtain ⟨_, _, ⟨T233, L234, k235, n236⟩, -, X237, ⟨Lc238, hQ239, l240, y241, z242⟩, st243⟩ := Jvm.LawKit.callS X0 hx (y := (⟨"com/example/lubeck/lubeck/policy/DurationUnitOfPinLaw", "expectedOf", "(C)Lcom/example/lubeck/lubeck/policy/DurationUnit;"⟩ : MethodName)) hown (mvT hZ (hw _ (List.mem_of_getElem? (i := 0) rfl))) (mvT hZ (hw _ (List.mem_of_getElem? (i := 1) rfl))) (mvT hZ (hw _ (List.mem_of_getElem? (i := 2) rfl))) (mvT hZ (hw _ (List.mem_of_getElem? (i := 3) rfl))) (by decide) (backOf (W := 0) (rm1 l Z a0 hw [] q r_SECOND r_MINUTE r_HOUR r_DAY .null h0 n0 Z0 (S_SECOND.ext O.2) (S_MINUTE.ext O.2) (S_HOUR.ext O.2) (S_DAY.ext O.2) (by simp [hc117, hc146, hc175, hc204])) hZ (hw _ (List.mem_of_getElem? (i := 3) rfl)) (hw _ (List.mem_of_getElem? (i := 2) rfl)) (by decide) (by decide)) (g := (mkF m 55 #[iv v0, iv v1, iv (v0 &&& (7 : Int32)), iv q, .unset, .unset] [(.int q)])) rfl (by rw [hml]; rfl) (argsL := [(.int q)]) (rest := []) (lenOf (by decide +kernel : parseMethodDescriptor "(C)Lcom/example/lubeck/lubeck/policy/DurationUnit;" = some ⟨[.char], some (.object "com/example/lubeck/lubeck/policy/DurationUnit")⟩) rfl) rfl (by show 2 * 0 + _ ≤ _; exact Nat.le_of_eq rfl) (hb hby at_55) (fun _ _ => ⟨rfl, e0, (by decide : 0 + 0 ≤ _), (by decide : 0 + 0 ≤ _)⟩)
                  dsimp only [Pt.U, Pt.locs, Pt.cells, Pt.slots] at X237 l240 y241 z242 st243 hQ239
                  subst l240 y241 z242
                  obtain ⟨rfl, N244, e245⟩ := hQ239
                  have N246 := Fr.app N0 N244
                  refine own_bk (S' := (T233.setTop (mkF m 58 #[iv v0, iv v1, iv (v0 &&& (7 : Int32)), iv q, .unset, .unset] [.null]))) st243 ?_
                  refine own_bk (S' := (T233.setTop (mkF m 60 #[iv v0, iv v1, iv (v0 &&& (7 : Int32)), iv q, .val .null, .unset] []))) (fun t_ kont => XS.astore X237.here hx rfl (hb hby at_58) rfl rfl (l' := #[iv v0, iv v1, iv (v0 &&& (7 : Int32)), iv q, .val .null, .unset]) rfl kont) ?_
                  refine own_bk (S' := (T233.setTop (mkF m 61 #[iv v0, iv v1, iv (v0 &&& (7 : Int32)), iv q, .val .null, .unset] [(.int q)]))) (fun t_ kont => XS.iloadN X237.here hx rfl (hb hby at_60) rfl kont) ?_
                  obtain ⟨_, _, ⟨T247, L248, k249, n250⟩, -, X251, ⟨Lc252, hQ253, l254, y255, z256⟩, st257⟩ := Jvm.LawKit.callS X237 hx (y := (⟨"com/example/lubeck/lubeck/policy/DurationUnit", "of", "(C)Lcom/example/lubeck/lubeck/policy/DurationUnit;"⟩ : MethodName)) hown (mvT hZ (hw _ (List.mem_of_getElem? (i := 7) rfl))) (mvT hZ (hw _ (List.mem_of_getElem? (i := 8) rfl))) (mvT hZ (hw _ (List.mem_of_getElem? (i := 5) rfl))) (mvT hZ (hw _ (List.mem_of_getElem? (i := 9) rfl))) (by decide) (backOf (W := 0) (rm2 l Z a0 hw [] q rV kV r_SECOND r_MINUTE r_HOUR r_DAY .null h0 n0 Z0 O SV AV EV F_SECOND F_MINUTE F_HOUR F_DAY (by simp [Ne.symm hc117, Ne.symm hc146, Ne.symm hc175, Ne.symm hc204])) hZ (hw _ (List.mem_of_getElem? (i := 9) rfl)) (hw _ (List.mem_of_getElem? (i := 5) rfl)) (by decide) (by decide)) (g := (mkF m 61 #[iv v0, iv v1, iv (v0 &&& (7 : Int32)), iv q, .val .null, .unset] [(.int q)])) rfl (by rw [hml]; rfl) (argsL := [(.int q)]) (rest := []) (lenOf (by decide +kernel : parseMethodDescriptor "(C)Lcom/example/lubeck/lubeck/policy/DurationUnit;" = some ⟨[.char], some (.object "com/example/lubeck/lubeck/policy/DurationUnit")⟩) rfl) rfl (by show 2 * 0 + _ ≤ _; exact Nat.le_of_eq rfl) (hb hby at_61) (fun _ _ => ⟨rfl, e245, (by decide : 0 + 1 ≤ _), (by decide : 0 + 4 ≤ _)⟩)
                  dsimp only [Pt.U, Pt.locs, Pt.cells, Pt.slots] at X251 l254 y255 z256 st257 hQ253
                  subst l254 y255 z256
                  obtain ⟨rfl, N258⟩ := hQ253
                  have N260 := Fr.app N246 N258
                  refine own_bk (S' := (T247.setTop (mkF m 64 #[iv v0, iv v1, iv (v0 &&& (7 : Int32)), iv q, .val .null, .unset] [.null]))) st257 ?_
                  refine own_bk (S' := (T247.setTop (mkF m 66 #[iv v0, iv v1, iv (v0 &&& (7 : Int32)), iv q, .val .null, .val .null] []))) (fun t_ kont => XS.astore X251.here hx rfl (hb hby at_64) rfl rfl (l' := #[iv v0, iv v1, iv (v0 &&& (7 : Int32)), iv q, .val .null, .val .null]) rfl kont) ?_
                  refine own_bk (S' := (T247.setTop (mkF m 68 #[iv v0, iv v1, iv (v0 &&& (7 : Int32)), iv q, .val .null, .val .null] [.null]))) (fun t_ kont => XS.aload X251.here hx rfl (hb hby at_66) rfl rfl kont) ?_
                  refine own_bk (S' := (T247.setTop (mkF m 70 #[iv v0, iv v1, iv (v0 &&& (7 : Int32)), iv q, .val .null, .val .null] [.null, .null]))) (fun t_ kont => XS.aload X251.here hx rfl (hb hby at_68) rfl rfl kont) ?_
                  refine own_bk (S' := (T247.setTop (mkF m 73 #[iv v0, iv v1, iv (v0 &&& (7 : Int32)), iv q, .val .null, .val .null] []))) (fun t_ kont => Jvm.RoadKit.acmp (g := (mkF m 70 #[iv v0, iv v1, iv (v0 &&& (7 : Int32)), iv q, .val .null, .val .null] [.null, .null])) X251 hx rfl rfl rfl (pc0 := 70) (pc' := 73) (same := true) rfl (hb hby at_70) rfl (decide_eq_true rfl) (by decide) (by decide) kont) ?_
                  refine own_bk (S' := (T247.setTop (mkF m 74 #[iv v0, iv v1, iv (v0 &&& (7 : Int32)), iv q, .val .null, .val .null] [(.int (1 : Int32))]))) (fun t_ kont => XS.iconst X251.here hx rfl (hb hby at_73) kont) ?_
                  refine own_bk (S' := (T247.setTop (mkF m 78 #[iv v0, iv v1, iv (v0 &&& (7 : Int32)), iv q, .val .null, .val .null] [(.int (1 : Int32))]))) (fun t_ kont => XS.goto X251.here hx rfl (pc0 := 74) (pc' := 78) rfl (hb hby at_74) (by decide) (by decide) kont) ?_
                  exact own_retN X251 hx hlk (t := .boolean) (w := (1 : Int32)) Bd.returns (by simp) (hb hby at_78) rfl ⟨rfl, N260⟩ (by decide) (by decide)
set_option maxRecDepth 65536 in
set_option maxHeartbeats 40000000 in
theorem comes_1 {Post : Tables → Env → Array Value → State → Outcome → State → Prop} (hpost : ∀ tb e args s v u, (limb_1_1.after args s (.returned v) u = true ∧ limb_1_2.after args s (.returned v) u = true ∧ True) → FrameEnd s (.returned v) u (Jvm.fieldLocs frame_1_writes args s ++ Jvm.arrayLocs frame_1_arrays args s ++ Jvm.staticLocs frame_1_statics s) 16 128 → Post tb e args s (.returned v) u) :
    ArmFor flags0 classFile x code maxLocals ret World_1 tables_1 room_1 Calls_1 rest_1 Pre_1 Post := by
  intro l hfl _ _ p e ha hc hk s m args below hf hA hF happ hP
  obtain ⟨hcalls, hrest, hpre⟩ := hP
  obtain ⟨-, -, -, hnamed, -, -, -, hat⟩ := (Spec.applies_iff hf).mp happ
  obtain ⟨hg, hn⟩ := and_e (Cond.before_iff.mp (show (Jvm.Cond.and given_1 narrow_1).before args s = true from hpre))
  obtain ⟨g0, hg⟩ := and_e hg
  obtain ⟨g1, hg⟩ := and_e hg
  have g2 := hg
  obtain ⟨w0, w1, rfl⟩ : ∃ w0 w1 : Value, args = #[w0, w1] := by
    have hs : args.size = 2 := by simpa [Cond.value, given_1] using g0
    obtain ⟨L⟩ := args
    match L, hs with
    | [w0, w1], _ => exact ⟨w0, w1, rfl⟩
  have hw := fun d (hd : d ∈ tables_1) => atoms_spec (ws := Jvm.Cond.code x code maxLocals ret :: tables_1) hat d (List.mem_cons_of_mem _ hd)
  have hfit : Fit s := fun {y c} hc i hi => by
    obtain ⟨ha, rfl⟩ := Array.getElem?_eq_some_iff.mp hc
    have q := List.all_eq_true.mp ((Array.all_eq_true_iff_forall_mem.mp hF) _ (Array.getElem_mem ha)) i (List.mem_range.mpr hi)
    simpa [Array.getElem?_eq_getElem hi] using q
  obtain ⟨v0, ev0⟩ := is_v g1
  obtain rfl : w0 = (.int v0) := Option.some.inj ev0
  obtain ⟨v1, ev1⟩ := is_v g2
  obtain rfl : w1 = (.int v1) := Option.some.inj ev1
  obtain ⟨c0, hn⟩ := and_e hn
  obtain ⟨c1, hn⟩ := and_e hn
  obtain ⟨c2, hn⟩ := and_e hn
  obtain ⟨c3, hn⟩ := and_e hn
  obtain ⟨c4, hn⟩ := and_e hn
  obtain ⟨c5, hn⟩ := and_e hn
  obtain ⟨c6, hn⟩ := and_e hn
  obtain ⟨c7, hn⟩ := and_e hn
  obtain ⟨c8, hn⟩ := and_e hn
  obtain ⟨c9, hn⟩ := and_e hn
  obtain ⟨c10, hn⟩ := and_e hn
  obtain ⟨c11, hn⟩ := and_e hn
  obtain ⟨c12, hn⟩ := and_e hn
  obtain ⟨c13, hn⟩ := and_e hn
  have c14 := hn
  obtain ⟨r_SECOND, ev_SECOND⟩ := exa_v c0
  have S_SECOND : Sta s s.heap "com/example/lubeck/lubeck/policy/DurationUnit" "SECOND" "Lcom/example/lubeck/lubeck/policy/DurationUnit;" (.ref r_SECOND) := Sta.start ev_SECOND (Or.inr ⟨(hw _ (List.mem_of_getElem? (i := 5) rfl)), (hw _ (List.mem_of_getElem? (i := 6) rfl))⟩)
  obtain ⟨r_MINUTE, ev_MINUTE⟩ := exa_v c5
  have S_MINUTE : Sta s s.heap "com/example/lubeck/lubeck/policy/DurationUnit" "MINUTE" "Lcom/example/lubeck/lubeck/policy/DurationUnit;" (.ref r_MINUTE) := Sta.start ev_MINUTE (Or.inr ⟨(hw _ (List.mem_of_getElem? (i := 5) rfl)), (hw _ (List.mem_of_getElem? (i := 22) rfl))⟩)
  obtain ⟨r_HOUR, ev_HOUR⟩ := exa_v c7
  have S_HOUR : Sta s s.heap "com/example/lubeck/lubeck/policy/DurationUnit" "HOUR" "Lcom/example/lubeck/lubeck/policy/DurationUnit;" (.ref r_HOUR) := Sta.start ev_HOUR (Or.inr ⟨(hw _ (List.mem_of_getElem? (i := 5) rfl)), (hw _ (List.mem_of_getElem? (i := 23) rfl))⟩)
  obtain ⟨r_DAY, ev_DAY⟩ := exa_v c9
  have S_DAY : Sta s s.heap "com/example/lubeck/lubeck/policy/DurationUnit" "DAY" "Lcom/example/lubeck/lubeck/policy/DurationUnit;" (.ref r_DAY) := Sta.start ev_DAY (Or.inr ⟨(hw _ (List.mem_of_getElem? (i := 5) rfl)), (hw _ (List.mem_of_getElem? (i := 24) rfl))⟩)
  obtain ⟨r_VALUES, ev_VALUES⟩ := exa_v c2
  have S_VALUES : Sta s s.heap "com/example/lubeck/lubeck/policy/DurationUnit" "$VALUES" "[Lcom/example/lubeck/lubeck/policy/DurationUnit;" (.ref r_VALUES) := Sta.start ev_VALUES (Or.inr ⟨(hw _ (List.mem_of_getElem? (i := 5) rfl)), (hw _ (List.mem_of_getElem? (i := 14) rfl))⟩)
  have EV : Exa s s.heap r_VALUES "[Lcom/example/lubeck/lubeck/policy/DurationUnit;" := Exa.start ev_VALUES c2
  obtain ⟨cV, ArV⟩ := Arr.start ev_VALUES c1
  obtain ⟨l1, l2⟩ := own_len c3 ev_VALUES (ArV.fin (Vm.Alike.refl _))
  have el_SECOND : cV.slots[0]? = some (.ref r_SECOND) := own_el c4 ev_VALUES ev_SECOND ArV.1
  have el_MINUTE : cV.slots[1]? = some (.ref r_MINUTE) := own_el c6 ev_VALUES ev_MINUTE ArV.1
  have el_HOUR : cV.slots[2]? = some (.ref r_HOUR) := own_el c8 ev_VALUES ev_HOUR ArV.1
  have el_DAY : cV.slots[3]? = some (.ref r_DAY) := own_el c10 ev_VALUES ev_DAY ArV.1
  have AV : Arv s s.heap r_VALUES cV.cls (.object "com/example/lubeck/lubeck/policy/DurationUnit") (4 : Int32) [(.ref r_SECOND), (.ref r_MINUTE), (.ref r_HOUR), (.ref r_DAY)] .null := Arv.start hfit ArV l1 l2 (by decide) rfl ⟨el_SECOND, el_MINUTE, el_HOUR, el_DAY, trivial⟩
  obtain ⟨n, o, h1, h2, h3, _, L, rfl, ⟨rfl, N⟩, hq⟩ := rm0 l s _ hw tables_1 v0 v1 r_VALUES cV.cls r_SECOND r_MINUTE r_HOUR r_DAY s.heap s.heap.size (Nat.le_refl _) (Old.start s) S_VALUES AV EV S_SECOND (Fld.start (own_fldInt c11 ev_SECOND)) S_MINUTE (Fld.start (own_fldInt c12 ev_MINUTE)) S_HOUR (Fld.start (own_fldInt c13 ev_HOUR)) S_DAY (Fld.start (own_fldInt c14 ev_DAY)) p e ha hc hk s m _ below hf ((Spec.applies_iff_loose hf).mp happ).1 ⟨rfl, State.Warmed39.refl s, rfl⟩ trivial
  refine ⟨n, _, h1, h2, h3, hpost _ _ _ _ _ _ ⟨Cond.after_iff.mpr rfl, Cond.after_iff.mpr (eq_i res_at (Term.int_eval (1)) rfl), trivial⟩ ⟨hq.1, hq.2.1, (hq.2.2.sift fun y hy => Or.inr (N y hy)).mono (by decide) (by decide)⟩⟩
theorem main_1_1 : Claimed_1_1 := comes_1 fun _ _ _ _ _ _ h hF => ⟨h.1, hF⟩
theorem main_1_2 : Claimed_1_2 := comes_1 fun _ _ _ _ _ _ h hF => ⟨h.2.1, hF⟩
end Jvm.Pilot.@@N@@
namespace Jvm.Pilot.@@N@@
open Jvm Jvm.ClassFile Sem Op Lib Jvm.Free Jvm.Stand Jvm.Pilot.@@N@@.Jvm.D
/-! MADE BY PROGRAM (witnessworld.py) out of the Statement's table words and the real class files: 13 classes; the members and pool entries that the words name. The judged class is class 1, her method 1. -/
namespace start1
open Jvm.ClassFile
def u (s : String) : CpInfo := .utf8 (stringToUtf16 s)
/-- a pool by its gaps: so many unusable entries, then the entry; so many at the end -/
def gap : Nat → List CpInfo → List CpInfo
  | 0, r => r
  | n + 1, r => .unusable :: gap n r
def poolList (es : List (Nat × CpInfo)) (last : Nat) : List CpInfo := es.foldr (fun e r => gap e.1 (e.2 :: r)) (gap last [])
def pool (es : List (Nat × CpInfo)) (last : Nat) : Array CpInfo := ⟨poolList es last⟩
def fileOf (pool : Array CpInfo) (this : Nat) (attrs : Array Attribute := #[]) (ms : Array MethodInfo := #[]) (fl : Nat := 33) (sup : Nat := 0) (ifs : Array Nat := #[]) (fds : Array FieldInfo := #[]) : ClassFile where
  minorVersion := 0
  majorVersion := 65
  constantPool := pool
  accessFlags := fl
  thisClass := this
  superClass := sup
  interfaces := ifs
  fields := fds
  methods := ms
  attributes := attrs
def plain (name : String) (sup : Option ClassId) : Class where
  name := name
  kind := .ordinary
  loader := none
  accessFlags := 33
  super := sup
  interfaces := #[]
  cf := none
  fields := #[]
  methods := #[]
  instanceTypes := #[]
  staticTypes := #[]
  resolved := #[]
  callSites := []
  init := .initialized
  statics := none
  mirror := none

def pool0 : Array CpInfo := pool [(5, u "<init>"), (0, u "()V"), (1, .class_ 10), (1, u "java/lang/Object"), (85, u "clone"), (0, u "()Ljava/lang/Object;")] 26

def k0m0 : Method := { name := "<init>", desc := "()V", sig := { parameters := [], returnType := none }, accessFlags := 1, code := none }
def k0m1 : Method := { name := "clone", desc := "()Ljava/lang/Object;", sig := { parameters := [], returnType := some (.object "java/lang/Object") }, accessFlags := 260, code := none }
/-- java/lang/Object -/
def k0 : Class := { plain "java/lang/Object" none with
  accessFlags := 33
  interfaces := #[]
  cf := some (fileOf pool0 8 #[] #[{ accessFlags := 1, nameIndex := 5, descriptorIndex := 6, attributes := #[] }, { accessFlags := 260, nameIndex := 96, descriptorIndex := 97, attributes := #[] }] 33 0 #[] #[])
  fields := #[]
  methods := #[k0m0, k0m1]
  instanceTypes := #[]
  staticTypes := #[]
  resolved := Array.replicate 124 none
  statics := none }

def pool1 : Array CpInfo := pool [(2, .class_ 4), (1, u "java/lang/Object"), (0, u "<init>"), (0, u "()V"), (0, .integer 65535), (0, .methodref 9 10), (0, .class_ 11), (0, .nameAndType 12 13), (0, u "com/example/lubeck/lubeck/policy/DurationUnitOfPinLaw"), (0, u "expectedOf"), (0, u "(C)Lcom/example/lubeck/lubeck/policy/DurationUnit;"), (0, .methodref 15 16), (0, .class_ 17), (0, .nameAndType 18 13), (0, u "com/example/lubeck/lubeck/policy/DurationUnit"), (0, u "of"), (0, .fieldref 15 20), (0, .nameAndType 21 22), (0, u "SECOND"), (0, u "Lcom/example/lubeck/lubeck/policy/DurationUnit;"), (0, .fieldref 15 24), (0, .nameAndType 25 22), (0, u "MINUTE"), (0, .fieldref 15 27), (0, .nameAndType 28 22), (0, u "HOUR"), (0, .fieldref 15 30), (0, .nameAndType 31 22), (0, u "DAY"), (2, u "law"), (0, u "(II)Z")] 3

def k1m0 : Method := { name := "<init>", desc := "()V", sig := { parameters := [], returnType := none }, accessFlags := 1, code := none }
def k1c1 : Code := { maxStack := 2, maxLocals := 6, code := code, exceptionTable := #[], attributes := #[] }
def k1m1 : Method := { name := "law", desc := "(II)Z", sig := { parameters := [.int, .int], returnType := some .boolean }, accessFlags := 9, code := some k1c1 }
def k1c2 : Code := { maxStack := 2, maxLocals := 1, code := method_3_code, exceptionTable := #[], attributes := #[] }
def k1m2 : Method := { name := "expectedOf", desc := "(C)Lcom/example/lubeck/lubeck/policy/DurationUnit;", sig := { parameters := [.char], returnType := some (.object "com/example/lubeck/lubeck/policy/DurationUnit") }, accessFlags := 10, code := some k1c2 }
/-- com/example/lubeck/lubeck/policy/DurationUnitOfPinLaw -/
def k1 : Class := { plain "com/example/lubeck/lubeck/policy/DurationUnitOfPinLaw" (some 0) with
  accessFlags := 49
  interfaces := #[]
  cf := some (fileOf pool1 9 #[] #[{ accessFlags := 1, nameIndex := 5, descriptorIndex := 6, attributes := #[] }, { accessFlags := 9, nameIndex := 34, descriptorIndex := 35, attributes := #[] }, { accessFlags := 10, nameIndex := 12, descriptorIndex := 13, attributes := #[] }] 49 2 #[] #[])
  fields := #[]
  methods := #[k1m0, k1m1, k1m2]
  instanceTypes := #[]
  staticTypes := #[]
  resolved := Array.replicate 39 none
  statics := none }

def pool2 : Array CpInfo := pool [(1, .class_ 2), (0, u "java/lang/constant/Constable"), (0, .class_ 4), (0, u "java/lang/Object")] 6

/-- java/lang/constant/Constable -/
def k2 : Class := { plain "java/lang/constant/Constable" (some 0) with
  accessFlags := 1537
  interfaces := #[]
  cf := some (fileOf pool2 1 #[] #[] 1537 3 #[] #[])
  fields := #[]
  methods := #[]
  instanceTypes := #[]
  staticTypes := #[]
  resolved := Array.replicate 11 none
  statics := none }

def pool3 : Array CpInfo := pool [(1, .class_ 2), (0, u "java/lang/Comparable"), (0, .class_ 4), (0, u "java/lang/Object")] 7

/-- java/lang/Comparable -/
def k3 : Class := { plain "java/lang/Comparable" (some 0) with
  accessFlags := 1537
  interfaces := #[]
  cf := some (fileOf pool3 1 #[] #[] 1537 3 #[] #[])
  fields := #[]
  methods := #[]
  instanceTypes := #[]
  staticTypes := #[]
  resolved := Array.replicate 12 none
  statics := none }

def pool4 : Array CpInfo := pool [(1, .class_ 2), (0, u "java/io/Serializable"), (0, .class_ 4), (0, u "java/lang/Object")] 2

/-- java/io/Serializable -/
def k4 : Class := { plain "java/io/Serializable" (some 0) with
  accessFlags := 1537
  interfaces := #[]
  cf := some (fileOf pool4 1 #[] #[] 1537 3 #[] #[])
  fields := #[]
  methods := #[]
  instanceTypes := #[]
  staticTypes := #[]
  resolved := Array.replicate 7 none
  statics := none }

def pool5 : Array CpInfo := pool [(2, .class_ 4), (1, u "java/lang/Enum"), (0, u "name"), (0, u "Ljava/lang/String;"), (2, u "ordinal"), (0, u "I"), (1, .class_ 14), (1, u "java/lang/Object"), (4, u "hash"), (86, .class_ 108), (1, u "java/lang/Enum$EnumDesc"), (2, .class_ 112), (0, u "java/lang/constant/Constable"), (0, .class_ 114), (0, u "java/lang/Comparable"), (0, .class_ 116), (0, u "java/io/Serializable")] 87

/-- java/lang/Enum -/
def k5 : Class := { plain "java/lang/Enum" (some 0) with
  accessFlags := 1057
  interfaces := #[2, 3, 4]
  cf := some (fileOf pool5 2 #[.nestMembers #[106]] #[] 1057 12 #[111, 113, 115] #[{ accessFlags := 18, nameIndex := 5, descriptorIndex := 6, attributes := #[] }, { accessFlags := 18, nameIndex := 9, descriptorIndex := 10, attributes := #[] }, { accessFlags := 2, nameIndex := 19, descriptorIndex := 10, attributes := #[] }])
  fields := #[{ name := "name", type := (.object "java/lang/String"), accessFlags := 18, slot := 0, constantValue := 0 }, { name := "ordinal", type := .int, accessFlags := 18, slot := 1, constantValue := 0 }, { name := "hash", type := .int, accessFlags := 2, slot := 2, constantValue := 0 }]
  methods := #[]
  instanceTypes := #[(.object "java/lang/String"), .int, .int]
  staticTypes := #[]
  resolved := Array.replicate 204 none
  statics := none }

def pool6 : Array CpInfo := pool [(1, .class_ 2), (0, u "com/example/lubeck/lubeck/policy/DurationUnit"), (2, u "SECOND"), (0, u "Lcom/example/lubeck/lubeck/policy/DurationUnit;"), (2, u "MINUTE"), (2, u "HOUR"), (2, u "DAY"), (0, .fieldref 1 17), (0, .nameAndType 18 19), (0, u "$VALUES"), (0, u "[Lcom/example/lubeck/lubeck/policy/DurationUnit;"), (0, .methodref 21 22), (0, .class_ 19), (0, .nameAndType 23 24), (0, u "clone"), (0, u "()Ljava/lang/Object;"), (1, .class_ 28), (1, u "java/lang/Enum"), (6, .fieldref 1 36), (0, .nameAndType 37 38), (0, u "symbol"), (0, u "C"), (2, u "seconds"), (0, u "I"), (0, .methodref 1 44), (0, .nameAndType 45 46), (0, u "values"), (0, u "()[Lcom/example/lubeck/lubeck/policy/DurationUnit;"), (16, u "of"), (0, u "(C)Lcom/example/lubeck/lubeck/policy/DurationUnit;"), (38, u "MAX_DIGITS_ADDED")] 34

def k6c0 : Code := { maxStack := 1, maxLocals := 0, code := prog_63_method_1_code, exceptionTable := #[], attributes := #[] }
def k6m0 : Method := { name := "values", desc := "()[Lcom/example/lubeck/lubeck/policy/DurationUnit;", sig := { parameters := [], returnType := some (.array (.object "com/example/lubeck/lubeck/policy/DurationUnit")) }, accessFlags := 9, code := some k6c0 }
def k6c1 : Code := { maxStack := 2, maxLocals := 5, code := prog_63_method_4_code, exceptionTable := #[], attributes := #[] }
def k6m1 : Method := { name := "of", desc := "(C)Lcom/example/lubeck/lubeck/policy/DurationUnit;", sig := { parameters := [.char], returnType := some (.object "com/example/lubeck/lubeck/policy/DurationUnit") }, accessFlags := 8, code := some k6c1 }
/-- com/example/lubeck/lubeck/policy/DurationUnit -/
def k6 : Class := { plain "com/example/lubeck/lubeck/policy/DurationUnit" (some 5) with
  accessFlags := 16432
  interfaces := #[]
  cf := some (fileOf pool6 1 #[] #[{ accessFlags := 9, nameIndex := 45, descriptorIndex := 46, attributes := #[] }, { accessFlags := 8, nameIndex := 63, descriptorIndex := 64, attributes := #[] }] 16432 26 #[] #[{ accessFlags := 16409, nameIndex := 5, descriptorIndex := 6, attributes := #[] }, { accessFlags := 16409, nameIndex := 9, descriptorIndex := 6, attributes := #[] }, { accessFlags := 16409, nameIndex := 12, descriptorIndex := 6, attributes := #[] }, { accessFlags := 16409, nameIndex := 15, descriptorIndex := 6, attributes := #[] }, { accessFlags := 26, nameIndex := 103, descriptorIndex := 42, attributes := #[] }, { accessFlags := 18, nameIndex := 37, descriptorIndex := 38, attributes := #[] }, { accessFlags := 18, nameIndex := 41, descriptorIndex := 42, attributes := #[] }, { accessFlags := 4122, nameIndex := 18, descriptorIndex := 19, attributes := #[] }])
  fields := #[{ name := "SECOND", type := (.object "com/example/lubeck/lubeck/policy/DurationUnit"), accessFlags := 16409, slot := 0, constantValue := 0 }, { name := "MINUTE", type := (.object "com/example/lubeck/lubeck/policy/DurationUnit"), accessFlags := 16409, slot := 1, constantValue := 0 }, { name := "HOUR", type := (.object "com/example/lubeck/lubeck/policy/DurationUnit"), accessFlags := 16409, slot := 2, constantValue := 0 }, { name := "DAY", type := (.object "com/example/lubeck/lubeck/policy/DurationUnit"), accessFlags := 16409, slot := 3, constantValue := 0 }, { name := "MAX_DIGITS_ADDED", type := .int, accessFlags := 26, slot := 4, constantValue := 0 }, { name := "symbol", type := .char, accessFlags := 18, slot := 3, constantValue := 0 }, { name := "seconds", type := .int, accessFlags := 18, slot := 4, constantValue := 0 }, { name := "$VALUES", type := (.array (.object "com/example/lubeck/lubeck/policy/DurationUnit")), accessFlags := 4122, slot := 5, constantValue := 0 }]
  methods := #[k6m0, k6m1]
  instanceTypes := #[(.object "java/lang/String"), .int, .int, .char, .int]
  staticTypes := #[(.object "com/example/lubeck/lubeck/policy/DurationUnit"), (.object "com/example/lubeck/lubeck/policy/DurationUnit"), (.object "com/example/lubeck/lubeck/policy/DurationUnit"), (.object "com/example/lubeck/lubeck/policy/DurationUnit"), .int, (.array (.object "com/example/lubeck/lubeck/policy/DurationUnit"))]
  resolved := Array.replicate 138 none
  statics := some 0 }

def pool7 : Array CpInfo := pool [(1, .class_ 2), (0, u "java/lang/Cloneable"), (0, .class_ 4), (0, u "java/lang/Object")] 2

/-- java/lang/Cloneable -/
def k7 : Class := { plain "java/lang/Cloneable" (some 0) with
  accessFlags := 1537
  interfaces := #[]
  cf := some (fileOf pool7 1 #[] #[] 1537 3 #[] #[])
  fields := #[]
  methods := #[]
  instanceTypes := #[]
  staticTypes := #[]
  resolved := Array.replicate 7 none
  statics := none }

/-- the primitive byte -/
def k8 : Class := { plain "byte" none with kind := .primitive 'B', accessFlags := 0x411 }
/-- [B -/
def k9 : Class := { plain "[B" (some 0) with kind := .array 8 .byte, interfaces := #[7, 4], accessFlags := 1041 }

/-- the primitive int -/
def k10 : Class := { plain "int" none with kind := .primitive 'I', accessFlags := 0x411 }
/-- [I -/
def k11 : Class := { plain "[I" (some 0) with kind := .array 10 .int, interfaces := #[7, 4], accessFlags := 1041 }

/-- [Lcom/example/lubeck/lubeck/policy/DurationUnit; -/
def k12 : Class := { plain "[Lcom/example/lubeck/lubeck/policy/DurationUnit;" (some 0) with kind := .array 6 (.object "com/example/lubeck/lubeck/policy/DurationUnit"), interfaces := #[7, 4], accessFlags := 1041 }

def heap : Heap := #[{ cls := 6, slots := #[.ref 2, .ref 3, .ref 4, .ref 5, .int 0, .ref 1], vm := .statics 6 },
  { cls := 12, slots := #[.ref 2, .ref 3, .ref 4, .ref 5], vm := .none },
  { cls := 6, slots := #[.null, .int 0, .int 0, .int 115, .int 0], vm := .none },
  { cls := 6, slots := #[.null, .int 0, .int 0, .int 109, .int 0], vm := .none },
  { cls := 6, slots := #[.null, .int 0, .int 0, .int 104, .int 0], vm := .none },
  { cls := 6, slots := #[.null, .int 0, .int 0, .int 100, .int 0], vm := .none }]
def classes : Array Class := #[k0, k1, k2, k3, k4, k5, k6, k7, k8, k9, k10, k11, k12]
def interned : List (Array UInt16 × Addr) := []
def slotsUsed : Nat := 30
def theMethod : MethodId := ⟨1, 1⟩
def args0 : Array Value := #[.int 5, .int 6]
def aboutOver (below : List Frame) : State where
  vm := { classes := classes, interned := interned.toArray }
  heap := heap
  slotsUsed := slotsUsed
  threads := #[{ frames := .invoking theMethod args0 :: below }]
def below0 : List Frame := [.native { method := ⟨0, 0⟩, args := #[] }]
def about1 : State := aboutOver below0
def p0 : Program := .bare "" "" ""
def e0 : Env := launch0.env 0 0 0
theorem w_frames : about1.frames = Frame.invoking theMethod args0 :: below0 := rfl
set_option maxRecDepth 65536 in
theorem w_args : argsFit about1.vm theMethod args0 = true := by decide +kernel
set_option maxRecDepth 65536 in
theorem w_heap : heapFits about1 = true := by decide +kernel
set_option maxRecDepth 65536 in
theorem w_runnable : about1.curStatus? = some .runnable := by decide +kernel
set_option maxRecDepth 65536 in
theorem w_alone : about1.alone = true := by decide +kernel
set_option maxRecDepth 65536 in
theorem w_named : about1.methodNamed? x = some theMethod := by decide +kernel
set_option maxRecDepth 65536 in
theorem w_hears : about1.hears theMethod below0 = true := by decide +kernel
set_option maxRecDepth 65536 in
theorem w_ripe : about1.ripe theMethod args0 below0 = true := by decide +kernel
theorem w_running : about1.status = .running := rfl
set_option maxRecDepth 65536 in
theorem w_room : about1.hasRoom e0.platform room_1 = true :=
  launch0.hasRoom_least _ room_1 (by decide +kernel) (by decide +kernel) (by decide +kernel) (by decide +kernel) (by decide +kernel) (by decide +kernel)
theorem allAtoms_all (ts : List Jvm.Cond) (a : Array Jvm.Value) (st : Jvm.State) : (allAtoms ts).before a st = ts.all (fun c => c.before a st) := by
  induction ts with
  | nil => rfl
  | cons c t ih =>
    show (Jvm.Cond.and c (allAtoms t)).before a st = _
    rw [Jvm.Cond.before_and, ih, List.all_cons]
def words1 : List Jvm.Cond := Jvm.Cond.code x code maxLocals ret :: tables_1
/-- a 'code' word, met by the world's own term for the bytes: nothing is compared byte by byte -/
theorem code_word {y : MethodName} {bytes : ByteArray} {mx : Nat} {rt : Option FieldType} {a : Array Value} {s : State} {m : MethodId} {meth : Method} {c : Code} (h1 : s.methodNamed? y = some m) (h2 : s.vm.method? m = some meth) (h3 : meth.code = some c) (h4 : c.code = bytes)
    (h5 : (c.maxLocals == mx && c.exceptionTable.isEmpty && decide (c.maxStack ≤ mostOperands) && decide (meth.sig.returnType = rt) && !meth.locks && decide (parseMethodDescriptor y.desc = some meth.sig)) = true) : (Jvm.Cond.code y bytes mx rt).before a s = true := by
  simp only [Bool.and_eq_true, beq_iff_eq, Bool.not_eq_true', decide_eq_true_eq] at h5
  obtain ⟨⟨⟨⟨⟨g1, g2⟩, g3⟩, g4⟩, g5⟩, g6⟩ := h5
  simp [Cond.before, Cond.holds, Cond.value, h1, h2, h3, h4, g1, g2, g3, g4, g5, g6]
def isCode : Jvm.Cond → Bool
  | .code _ _ _ _ => true
  | _ => false
theorem all_split {L : List Jvm.Cond} {P : Jvm.Cond → Bool} (h1 : L.all (fun c => isCode c || P c) = true) (h2 : ∀ c ∈ L.filter isCode, P c = true) : L.all P = true := by
  refine List.all_eq_true.mpr fun c hc => ?_
  have h := List.all_eq_true.mp h1 c hc
  rcases Bool.eq_false_or_eq_true (isCode c) with hi | hi
  · exact h2 c (List.mem_filter.mpr ⟨hc, hi⟩)
  · simpa [hi] using h
set_option maxRecDepth 65536 in
theorem w_c0 : (Jvm.Cond.code x code maxLocals ret).before args0 about1 = true := code_word (m := ⟨1, 1⟩) (meth := k1m1) (c := k1c1) (by decide +kernel) rfl rfl rfl (by decide +kernel)
set_option maxRecDepth 65536 in
theorem w_c1 : (Jvm.Cond.code ({ cls := "com/example/lubeck/lubeck/policy/DurationUnitOfPinLaw", name := "expectedOf", desc := "(C)Lcom/example/lubeck/lubeck/policy/DurationUnit;" } : Jvm.MethodName) method_3_code (1 : Nat) (Option.some (Jvm.ClassFile.FieldType.object "com/example/lubeck/lubeck/policy/DurationUnit"))).before args0 about1 = true := code_word (m := ⟨1, 2⟩) (meth := k1m2) (c := k1c2) (by decide +kernel) rfl rfl rfl (by decide +kernel)
set_option maxRecDepth 65536 in
theorem w_c2 : (Jvm.Cond.code ({ cls := "com/example/lubeck/lubeck/policy/DurationUnit", name := "of", desc := "(C)Lcom/example/lubeck/lubeck/policy/DurationUnit;" } : Jvm.MethodName) prog_63_method_4_code (5 : Nat) (Option.some (Jvm.ClassFile.FieldType.object "com/example/lubeck/lubeck/policy/DurationUnit"))).before args0 about1 = true := code_word (m := ⟨6, 1⟩) (meth := k6m1) (c := k6c1) (by decide +kernel) rfl rfl rfl (by decide +kernel)
set_option maxRecDepth 65536 in
theorem w_c3 : (Jvm.Cond.code ({ cls := "com/example/lubeck/lubeck/policy/DurationUnit", name := "values", desc := "()[Lcom/example/lubeck/lubeck/policy/DurationUnit;" } : Jvm.MethodName) prog_63_method_1_code (0 : Nat) (Option.some (Jvm.ClassFile.FieldType.array (Jvm.ClassFile.FieldType.object "com/example/lubeck/lubeck/policy/DurationUnit")))).before args0 about1 = true := code_word (m := ⟨6, 0⟩) (meth := k6m0) (c := k6c0) (by decide +kernel) rfl rfl rfl (by decide +kernel)
def codes1 : List Jvm.Cond := [Jvm.Cond.code x code maxLocals ret, Jvm.Cond.code ({ cls := "com/example/lubeck/lubeck/policy/DurationUnitOfPinLaw", name := "expectedOf", desc := "(C)Lcom/example/lubeck/lubeck/policy/DurationUnit;" } : Jvm.MethodName) method_3_code (1 : Nat) (Option.some (Jvm.ClassFile.FieldType.object "com/example/lubeck/lubeck/policy/DurationUnit")), Jvm.Cond.code ({ cls := "com/example/lubeck/lubeck/policy/DurationUnit", name := "of", desc := "(C)Lcom/example/lubeck/lubeck/policy/DurationUnit;" } : Jvm.MethodName) prog_63_method_4_code (5 : Nat) (Option.some (Jvm.ClassFile.FieldType.object "com/example/lubeck/lubeck/policy/DurationUnit")), Jvm.Cond.code ({ cls := "com/example/lubeck/lubeck/policy/DurationUnit", name := "values", desc := "()[Lcom/example/lubeck/lubeck/policy/DurationUnit;" } : Jvm.MethodName) prog_63_method_1_code (0 : Nat) (Option.some (Jvm.ClassFile.FieldType.array (Jvm.ClassFile.FieldType.object "com/example/lubeck/lubeck/policy/DurationUnit")))]
set_option maxRecDepth 65536 in
theorem codes_eq : words1.filter isCode = codes1 := rfl
theorem w_codes : ∀ c ∈ words1.filter isCode, c.before args0 about1 = true := by
  rw [codes_eq]
  intro c hc
  simp only [codes1, List.mem_cons, List.not_mem_nil, or_false] at hc
  rcases hc with rfl | rfl | rfl | rfl
  · exact w_c0
  · exact w_c1
  · exact w_c2
  · exact w_c3
set_option maxRecDepth 65536 in
theorem w_t1 : (words1.take 24).all (fun c => isCode c || c.before args0 about1) = true := by decide +kernel
set_option maxRecDepth 65536 in
theorem w_t2 : (words1.drop 24).all (fun c => isCode c || c.before args0 about1) = true := by decide +kernel
theorem w_tables : (allAtoms (Jvm.Cond.code x code maxLocals ret :: tables_1)).before args0 about1 = true := by
  rw [allAtoms_all]
  show words1.all (fun c => c.before args0 about1) = true
  refine all_split ?_ w_codes
  rw [← List.take_append_drop 24 words1, List.all_append, w_t1, w_t2]
  rfl
set_option maxRecDepth 65536 in
theorem w_case : (Jvm.Cond.and given_1 narrow_1).before args0 about1 = true := by decide +kernel
theorem w_applies : (headSpec (Jvm.Cond.code x code maxLocals ret :: tables_1) room_1).applies x e0.platform about1 = true :=
  (Spec.applies_iff w_frames).mpr ⟨w_running, w_runnable, w_alone, w_named, w_hears, w_ripe, w_room, w_tables⟩
theorem atStart : AtStart classFile x code maxLocals ret World_1 tables_1 room_1 Calls_1 rest_1 Pre_1 launch0 p0 e0 about1 theMethod args0 below0 :=
  ⟨lists_1, trivial, launch0.admits_env _ _ _, launch0.least_env, fairChoices_fair.cas, fairChoices_fair.clock, w_frames, w_args, w_heap, w_applies, trivial, trivial, w_case⟩
end start1
theorem witness_1 : WitnessClaimed_1 := ⟨start1.p0, start1.e0, start1.about1, start1.theMethod, start1.args0, start1.below0, start1.atStart⟩
end Jvm.Pilot.@@N@@
