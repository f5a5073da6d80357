import JvmDerived
import JvmDerived.Pilot.@@N@@Statement
import JvmDerived.Pilot.@@N@@Code
set_option linter.unusedVariables false
set_option linter.unusedSimpArgs false
namespace Jvm.RoadKit
open Sem ClassFile Op Lib Jvm.Stand Jvm.Free Jvm.LawKit
section New
variable {p : Program} {l : Launch} {e : Env} {R : Room} {s : State} {m : MethodId} {args : Array Value} {below : List Frame} {meth : Method} {c : Code} {T : State} {locs : List Loc} {cells slots : Nat}
theorem retI (X : Stand p l e R s m args below meth c T locs cells slots) (hx : p.tables.exec = Jvm.exec) {pc : Nat} {Ls : Array Slot} {z : Int32} {rest : List Value} (hret : meth.sig.returnType = some .int) (hd : decode c.code pc = .ok (.ireturn, 1)) {fs : List Frame}
    (hl : ∀ (f : JFrame) (acts : List Action), f.method = m → f.locked = none → f.entered = [] → (doReturn e (T.setTop f) acts (some (.int z))).1 = T.setFrames fs) : Steps p.tables e below (T.setTop (mkF m pc Ls (.int z :: rest))) (T.setFrames fs) := by
  have hm' : T.vm.method? m = some meth := X.method'
  have hn : narrow .int (.int z) = .int z := rfl
  show Steps p.tables e below (T.setTop { method := m, pc := pc, locals := Ls, stack := _ :: rest, locked := none }) _
  jvm_step X.here [X.here.top, hx, hd, hm', hret, hn]
  first | (intro acts; rw [hl _ acts rfl rfl rfl]) | rw [hl _ _ rfl rfl rfl]
  exact Steps.refl _
end New
end Jvm.RoadKit
/- laws to paste: Road.backV (cut by pick.py; bodies as the Statement names them) -/
namespace Jvm.Pilot.@@N@@
namespace StrChars
open Jvm Sem ClassFile Op Lib Jvm.Stand Jvm.Free.XT Jvm.Free.ALB Jvm.Free.JM Jvm.Free
open Jvm.Lib.Cold (StaticIs)
/-- a char array whose places are chars -/
def Ch (a : Addr) (A : Cell) (U : State) : Prop := Arr .char a A U ∧ Typed .char A
theorem Ch.mv {a : Addr} {A : Cell} {U U' : State} (h : Ch a A U) (hal : U.vm.Alike U'.vm) (hh : U'.heap = U.heap) : Ch a A U' := ⟨h.1.mv hal hh, h.2⟩
theorem Ch.keep {a : Addr} {A : Cell} {U U' : State} (h : Ch a A U) (hal : U.vm.Alike U'.vm) (hk : U'.heap[a]? = some A) : Ch a A U' := ⟨h.1.keep hal hk, h.2⟩
/-- what place i of a char[]'s cell holds -/
def cv (A : Cell) (i : Nat) : Int32 := match A.slots[i]? with | some (.int x) => x | _ => 0
theorem Ch.get {a : Addr} {A : Cell} {U : State} (h : Ch a A U) {i : Nat} (hi : i < A.slots.size) : A.slots[i]? = some (.int (cv A i)) := by
  have e := Array.getElem?_eq_getElem hi
  have f := h.2 i _ e
  unfold cv; rw [e]
  generalize A.slots[i] = v at f
  cases v <;> simp [fits] at f ⊢
/-- the byte that i2b leaves of a char -/
def lo8 (x : Int32) : Int32 := x.toInt8.toInt32
theorem fits_lo8 (y : Int32) : fits .byte (.int (lo8 y)) = true := by
  have h1 := y.toInt8.le_toInt
  have h2 := y.toInt8.toInt_lt
  simp only [lo8, fits, Bool.and_eq_true, decide_eq_true_eq, Int32.le_iff_toInt_le, Int8.toInt_toInt32, show (-128 : Int32).toInt = -128 from by decide, show (127 : Int32).toInt = 127 from by decide]
  omega
/-- A' is A but that each place j of lo .. hi - 1 holds f j -/
def Laid (A A' : Cell) (lo hi : Nat) (f : Nat → Value) : Prop := A'.cls = A.cls ∧ A'.vm = A.vm ∧ A'.slots.size = A.slots.size ∧ ∀ i, A'.slots[i]? = if lo ≤ i ∧ i < hi then some (f i) else A.slots[i]?
theorem Laid.zero (A : Cell) (lo : Nat) (f : Nat → Value) : Laid A A lo (lo + 0) f := ⟨rfl, rfl, rfl, fun i => by rw [if_neg (by omega)]⟩
theorem Laid.step {A Ak : Cell} {lo k : Nat} {f : Nat → Value} {v : Value} (h : Laid A Ak lo k f) (hlo : lo ≤ k) (hk : k < Ak.slots.size) (hv : v = f k) : Laid A (Ak.setSlot k v) lo (k + 1) f := by
  refine ⟨h.1, h.2.1, by simpa [Cell.setSlot] using h.2.2.1, fun i => ?_⟩
  by_cases e : k = i
  · subst e; rw [Cell.slots_setSlot_self v hk, if_pos (by omega), hv]
  · rw [Cell.slots_setSlot_ne v e, h.2.2.2 i]
    by_cases q : lo ≤ i ∧ i < k
    · rw [if_pos q, if_pos (by omega)]
    · rw [if_neg q, if_neg (by omega)]
def U16 : String := "java/lang/StringUTF16"
namespace Cmp5
def yN : MethodName := ⟨"java/lang/StringUTF16", "compress", "([CI[BII)I"⟩
abbrev yB : ByteArray := jdk_52_method_21_code
theorem d0 : decode yB 0 = .ok (.iconst 0, 1) := by decide +kernel
theorem d1 : decode yB 1 = .ok (.istore 5, 2) := by decide +kernel
theorem d3 : decode yB 3 = .ok (.iload 5, 2) := by decide +kernel
theorem d5 : decode yB 5 = .ok (.iload 4, 2) := by decide +kernel
theorem d7 : decode yB 7 = .ok (.if_icmp (.ge) 37, 3) := by decide +kernel
theorem d10 : decode yB 10 = .ok (.aload_n 0, 1) := by decide +kernel
theorem d11 : decode yB 11 = .ok (.iload_n 1, 1) := by decide +kernel
theorem d12 : decode yB 12 = .ok (.caload, 1) := by decide +kernel
theorem d13 : decode yB 13 = .ok (.istore 6, 2) := by decide +kernel
theorem d15 : decode yB 15 = .ok (.iload 6, 2) := by decide +kernel
theorem d17 : decode yB 17 = .ok (.sipush 255, 3) := by decide +kernel
theorem d20 : decode yB 20 = .ok (.if_icmp (.le) 6, 3) := by decide +kernel
theorem d26 : decode yB 26 = .ok (.aload_n 2, 1) := by decide +kernel
theorem d27 : decode yB 27 = .ok (.iload_n 3, 1) := by decide +kernel
theorem d28 : decode yB 28 = .ok (.iload 6, 2) := by decide +kernel
theorem d30 : decode yB 30 = .ok (.i2b, 1) := by decide +kernel
theorem d31 : decode yB 31 = .ok (.bastore, 1) := by decide +kernel
theorem d32 : decode yB 32 = .ok (.iinc 1 1, 3) := by decide +kernel
theorem d35 : decode yB 35 = .ok (.iinc 3 1, 3) := by decide +kernel
theorem d38 : decode yB 38 = .ok (.iinc 5 1, 3) := by decide +kernel
theorem d41 : decode yB 41 = .ok (.goto (-38), 3) := by decide +kernel
theorem d44 : decode yB 44 = .ok (.iload 4, 2) := by decide +kernel
theorem d46 : decode yB 46 = .ok (.ireturn, 1) := by decide +kernel
def site : List Cond := []
def tab : Cond := tabOf yN yB 7 (some .int) site
def P (b : Addr) (A : Cell) (d : Addr) (B : Cell) (o q len : Nat) (args : Array Value) (s : State) : Prop := args = #[.ref b, .int (Int32.ofNat o), .ref d, .int (Int32.ofNat q), .int (Int32.ofNat len)] ∧ Ch b A s ∧ Arr .byte d B s ∧ b ≠ d ∧ o + len ≤ A.slots.size ∧ q + len ≤ B.slots.size ∧ ∀ i, i < len → ¬ 255 < cv A (o + i)
def E (b : Addr) (A : Cell) (d : Addr) (B : Cell) (o q len : Nat) (r : Option Value) (s u : State) : Prop := r = some (.int (Int32.ofNat len)) ∧ ∃ B', Put d B' s u ∧ Laid B B' q (q + len) (fun j => Value.int (lo8 (cv A (o + (j - q)))))
/-- no char of the range above 255: len; the places written hold each char's low byte -/
theorem law (l : Launch) (b : Addr) (A : Cell) (d : Addr) (B : Cell) (o q len : Nat) : Law l yN 5 5 0 0 yB 7 (some .int) site (P b A d B o q len) (E b A d B o q len) (copyLocs d q len) 0 0 := by
  refine Law.of_walk (plainFor_of_name (by decide +kernel)) (by decide +kernel) (by decide +kernel) (by decide) (fun _ _ h => by rw [h.1]; rfl) (fun _ U U' hal hh h => ⟨h.1, h.2.1.mv hal hh, h.2.2.1.mv hal hh, h.2.2.2⟩) (fun r U U' V V' h1 hal h2 h => ⟨h.1, h.2.elim fun B' q => ⟨B', q.1.mv h1 h2, q.2⟩⟩) ?_
  intro p e s m args below meth c s₁ X0 hexec hbytes hml hret hlk hnm hown hh0 W hP
  obtain ⟨rfl, hA, hB, hne, l1, l2, hp⟩ := hP
  have c1 : Steps p.tables e below (s₁.setTop (entryFrame m #[.ref b, .int (Int32.ofNat o), .ref d, .int (Int32.ofNat q), .int (Int32.ofNat len)] 7)) (s₁.setTop (mkF m 0 #[.val (.ref b), .val (.int (Int32.ofNat o)), .val (.ref d), .val (.int (Int32.ofNat q)), .val (.int (Int32.ofNat len)), .unset, .unset] [])) := entry rfl
  have hA0 := hA.1.mv X0.warmed.alike hh0
  have hB0 := hB.mv X0.warmed.alike hh0
  have a31 := hA.1.2.2.2
  have c2 : Steps p.tables e below (s₁.setTop (entryFrame m #[.ref b, .int (Int32.ofNat o), .ref d, .int (Int32.ofNat q), .int (Int32.ofNat len)] 7)) (s₁.setTop (mkF m 3 #[.val (.ref b), .val (.int (Int32.ofNat o)), .val (.ref d), .val (.int (Int32.ofNat q)), .val (.int (Int32.ofNat len)), .val (.int 0), .unset] [])) := c1.trans (by
    refine iconstV X0.here hexec rfl 0 (hb hbytes d0) (by decide) ?_
    refine XS.istore X0.here hexec rfl (hb hbytes d1) rfl rfl ?_
    exact Steps.refl _)
  have loop : ∀ (r i : Nat), i + r = len → ∀ (z : Slot), (z = .unset ∨ ∃ w, z = .val w ∧ w.category = 1) → ∀ (Tl : State) (Bk : Cell), Stand p l e { frames := 0, locals := 0, cells := 0, slots := 0 } s m #[.ref b, .int (Int32.ofNat o), .ref d, .int (Int32.ofNat q), .int (Int32.ofNat len)] below meth c Tl ([] ++ copyLocs d q i) 0 0 → Put d Bk s₁ Tl → Laid B Bk q (q + i) (fun j => Value.int (lo8 (cv A (o + (j - q))))) →
      Steps p.tables e below (s₁.setTop (entryFrame m #[.ref b, .int (Int32.ofNat o), .ref d, .int (Int32.ofNat q), .int (Int32.ofNat len)] 7)) (Tl.setTop (mkF m 3 #[.val (.ref b), .val (.int (Int32.ofNat (o + i))), .val (.ref d), .val (.int (Int32.ofNat (q + i))), .val (.int (Int32.ofNat len)), .val (.int (Int32.ofNat i)), z] [])) → ∃ (T' : State) (B' : Cell) (z' : Slot), Stand p l e { frames := 0, locals := 0, cells := 0, slots := 0 } s m #[.ref b, .int (Int32.ofNat o), .ref d, .int (Int32.ofNat q), .int (Int32.ofNat len)] below meth c T' ([] ++ copyLocs d q len) 0 0 ∧ Put d B' s₁ T' ∧ Laid B B' q (q + len) (fun j => Value.int (lo8 (cv A (o + (j - q))))) ∧
      Steps p.tables e below (s₁.setTop (entryFrame m #[.ref b, .int (Int32.ofNat o), .ref d, .int (Int32.ofNat q), .int (Int32.ofNat len)] 7)) (T'.setTop (mkF m 3 #[.val (.ref b), .val (.int (Int32.ofNat (o + len))), .val (.ref d), .val (.int (Int32.ofNat (q + len))), .val (.int (Int32.ofNat len)), .val (.int (Int32.ofNat len)), z'] [])) := by
    intro r
    induction r with
    | zero =>
      intro i hi z hz Tl Bk Xl pl fl cl
      have hil : i = len := by omega
      rw [hil] at Xl fl cl
      exact ⟨Tl, Bk, z, Xl, pl, fl, cl⟩
    | succ r ih =>
      intro i hi z hz Tl Bk Xl pl fl cl
      have all := X0.warmed.alike.symm.trans Xl.warmed.alike
      have hAl := hA0.keep all (pl.other hne hA0.1)
      have hBk := hB0.like all pl.1 fl.1 fl.2.1 fl.2.2.1
      have hlt : q + i < Bk.slots.size := by rw [fl.2.2.1]; omega
      have c3 : Steps p.tables e below (s₁.setTop (entryFrame m #[.ref b, .int (Int32.ofNat o), .ref d, .int (Int32.ofNat q), .int (Int32.ofNat len)] 7)) (Tl.setTop (mkF m 12 #[.val (.ref b), .val (.int (Int32.ofNat (o + i))), .val (.ref d), .val (.int (Int32.ofNat (q + i))), .val (.int (Int32.ofNat len)), .val (.int (Int32.ofNat i)), z] [.int (Int32.ofNat (o + i)), .ref b])) := cl.trans (by
        refine XS.iload Xl.here hexec rfl (hb hbytes d3) rfl ?_
        refine XS.iload Xl.here hexec rfl (hb hbytes d5) rfl ?_
        refine XS.icmpNo Xl.here hexec rfl (hb hbytes d7) rfl (ii_ge_f (lt32 (by omega) (by omega))) ?_
        refine XS.aloadN Xl.here hexec rfl (hb hbytes d10) rfl rfl ?_
        refine XS.iloadN Xl.here hexec rfl (hb hbytes d11) rfl ?_
        exact Steps.refl _)
      have c4 : Steps p.tables e below (s₁.setTop (entryFrame m #[.ref b, .int (Int32.ofNat o), .ref d, .int (Int32.ofNat q), .int (Int32.ofNat len)] 7)) (Tl.setTop (mkF m 13 #[.val (.ref b), .val (.int (Int32.ofNat (o + i))), .val (.ref d), .val (.int (Int32.ofNat (q + i))), .val (.int (Int32.ofNat len)), .val (.int (Int32.ofNat i)), z] [.int (cv A (o + i))])) := c3.trans (by
        refine Xl.aget hexec hAl rfl (hA.get (i := o + i) (by omega)) rfl rfl (hb hbytes d12) ?_
        exact Steps.refl _)
      have c5 : Steps p.tables e below (s₁.setTop (entryFrame m #[.ref b, .int (Int32.ofNat o), .ref d, .int (Int32.ofNat q), .int (Int32.ofNat len)] 7)) (Tl.setTop (mkF m 15 #[.val (.ref b), .val (.int (Int32.ofNat (o + i))), .val (.ref d), .val (.int (Int32.ofNat (q + i))), .val (.int (Int32.ofNat len)), .val (.int (Int32.ofNat i)), .val (.int (cv A (o + i)))] [])) := c4.trans (by
        refine XS.istoreS Xl.here hexec rfl (hb hbytes d13) rfl rfl hz ?_
        exact Steps.refl _)
      have c6 : Steps p.tables e below (s₁.setTop (entryFrame m #[.ref b, .int (Int32.ofNat o), .ref d, .int (Int32.ofNat q), .int (Int32.ofNat len)] 7)) (Tl.setTop (mkF m 31 #[.val (.ref b), .val (.int (Int32.ofNat (o + i))), .val (.ref d), .val (.int (Int32.ofNat (q + i))), .val (.int (Int32.ofNat len)), .val (.int (Int32.ofNat i)), .val (.int (cv A (o + i)))] [.int (lo8 (cv A (o + i))), .int (Int32.ofNat (q + i)), .ref d])) := c5.trans (by
        refine XS.iload Xl.here hexec rfl (hb hbytes d15) rfl ?_
        refine sipushV Xl.here hexec rfl 255 (hb hbytes d17) (by decide) ?_
        refine XS.icmpYes Xl.here hexec rfl (pc0 := 20) rfl (hb hbytes d20) rfl (ii_le_t (hp i (by omega))) (by decide) rfl ?_
        refine XS.aloadN Xl.here hexec rfl (hb hbytes d26) rfl rfl ?_
        refine XS.iloadN Xl.here hexec rfl (hb hbytes d27) rfl ?_
        refine XS.iload Xl.here hexec rfl (hb hbytes d28) rfl ?_
        refine i2b Xl.here hexec rfl (hb hbytes d30) rfl ?_
        exact Steps.refl _)
      obtain ⟨T7, X7, p7, st7⟩ := Xl.aput hexec hBk rfl hlt rfl (fits_lo8 (cv A (o + i))) (g := (mkF m 31 #[.val (.ref b), .val (.int (Int32.ofNat (o + i))), .val (.ref d), .val (.int (Int32.ofNat (q + i))), .val (.int (Int32.ofNat len)), .val (.int (Int32.ofNat i)), .val (.int (cv A (o + i)))] [.int (lo8 (cv A (o + i))), .int (Int32.ofNat (q + i)), .ref d])) rfl (rest := []) rfl (hb hbytes d31)
      have c8 : Steps p.tables e below (s₁.setTop (entryFrame m #[.ref b, .int (Int32.ofNat o), .ref d, .int (Int32.ofNat q), .int (Int32.ofNat len)] 7)) (T7.setTop (mkF m 32 #[.val (.ref b), .val (.int (Int32.ofNat (o + i))), .val (.ref d), .val (.int (Int32.ofNat (q + i))), .val (.int (Int32.ofNat len)), .val (.int (Int32.ofNat i)), .val (.int (cv A (o + i)))] [])) := c6.trans (st7 _ (Steps.refl _))
      have c9 : Steps p.tables e below (s₁.setTop (entryFrame m #[.ref b, .int (Int32.ofNat o), .ref d, .int (Int32.ofNat q), .int (Int32.ofNat len)] 7)) (T7.setTop (mkF m 3 #[.val (.ref b), .val (.int (Int32.ofNat (o + i) + 1)), .val (.ref d), .val (.int (Int32.ofNat (q + i) + 1)), .val (.int (Int32.ofNat len)), .val (.int (Int32.ofNat i + 1)), .val (.int (cv A (o + i)))] [])) := c8.trans (by
        refine iincV X7.here hexec rfl 1 (hb hbytes d32) (by decide) rfl rfl ?_
        refine iincV X7.here hexec rfl 1 (hb hbytes d35) (by decide) rfl rfl ?_
        refine iincV X7.here hexec rfl 1 (hb hbytes d38) (by decide) rfl rfl ?_
        refine XS.goto X7.here hexec rfl (pc0 := 41) rfl (hb hbytes d41) (by decide) rfl ?_
        exact Steps.refl _)
      have c10 : Steps p.tables e below (s₁.setTop (entryFrame m #[.ref b, .int (Int32.ofNat o), .ref d, .int (Int32.ofNat q), .int (Int32.ofNat len)] 7)) (T7.setTop (mkF m 3 #[.val (.ref b), .val (.int (Int32.ofNat (o + (i + 1)))), .val (.ref d), .val (.int (Int32.ofNat (q + (i + 1)))), .val (.int (Int32.ofNat len)), .val (.int (Int32.ofNat (i + 1))), .val (.int (cv A (o + i)))] [])) := by
        have := c9
        rw [succ32, succ32, succ32] at this
        exact this
      exact ih (i + 1) (by omega) _ (Or.inr ⟨_, rfl, rfl⟩) T7 _ (by rw [copyLocs_step, ← List.append_assoc]; exact X7) (pl.trans p7) (fl.step (by omega) hlt (by simp)) c10
  obtain ⟨T9, B9, z9, X9, p9, f9, g9⟩ := loop len 0 (by omega) .unset (Or.inl rfl) s₁ B (by simpa [copyLocs] using X0) ⟨hB0.1, fun _ _ => rfl, rfl⟩ (Laid.zero _ _ _) c2
  have c11 : Steps p.tables e below (s₁.setTop (entryFrame m #[.ref b, .int (Int32.ofNat o), .ref d, .int (Int32.ofNat q), .int (Int32.ofNat len)] 7)) (T9.setTop (mkF m 46 #[.val (.ref b), .val (.int (Int32.ofNat (o + len))), .val (.ref d), .val (.int (Int32.ofNat (q + len))), .val (.int (Int32.ofNat len)), .val (.int (Int32.ofNat len)), z9] [.int (Int32.ofNat len)])) := g9.trans (by
    refine XS.iload X9.here hexec rfl (hb hbytes d3) rfl ?_
    refine XS.iload X9.here hexec rfl (hb hbytes d5) rfl ?_
    refine XS.icmpYes X9.here hexec rfl (pc0 := 7) rfl (hb hbytes d7) rfl (ii_ge_t (nlt32 (by omega) (Nat.le_refl _))) (by decide) rfl ?_
    refine XS.iload X9.here hexec rfl (hb hbytes d44) rfl ?_
    exact Steps.refl _)
  exact ⟨T9, some (.int (Int32.ofNat len)), _, _, _, X9, by simp, rfl, rfl, (fun h => by cases h), ⟨rfl, B9, p9.from hh0, f9⟩, fun fs hl => c11.trans (X9.ireturnOut hexec hret rfl (Or.inl rfl) (hb hbytes d46) hl)⟩
end Cmp5
namespace Cmp3
def yN : MethodName := ⟨"java/lang/StringUTF16", "compress", "([CII)[B"⟩
abbrev yB : ByteArray := jdk_52_method_16_code
theorem d0 : decode yB 0 = .ok (.iload_n 2, 1) := by decide +kernel
theorem d1 : decode yB 1 = .ok (.newarray .byte, 2) := by decide +kernel
theorem d3 : decode yB 3 = .ok (.astore_n 3, 1) := by decide +kernel
theorem d4 : decode yB 4 = .ok (.aload_n 0, 1) := by decide +kernel
theorem d5 : decode yB 5 = .ok (.iload_n 1, 1) := by decide +kernel
theorem d6 : decode yB 6 = .ok (.aload_n 3, 1) := by decide +kernel
theorem d7 : decode yB 7 = .ok (.iconst 0, 1) := by decide +kernel
theorem d8 : decode yB 8 = .ok (.iload_n 2, 1) := by decide +kernel
theorem d9 : decode yB 9 = .ok (.invokestatic 115, 3) := by decide +kernel
theorem d12 : decode yB 12 = .ok (.istore 4, 2) := by decide +kernel
theorem d14 : decode yB 14 = .ok (.iload 4, 2) := by decide +kernel
theorem d16 : decode yB 16 = .ok (.iload_n 2, 1) := by decide +kernel
theorem d17 : decode yB 17 = .ok (.if_icmp (.eq) 40, 3) := by decide +kernel
theorem d57 : decode yB 57 = .ok (.aload_n 3, 1) := by decide +kernel
theorem d58 : decode yB 58 = .ok (.areturn, 1) := by decide +kernel
def site : List Cond := [.arrayClass .byte, Cmp5.tab] ++ staticW U16 115 Cmp5.yN
def tab : Cond := tabOf yN yB 6 (some (.array .byte)) site
def P (b : Addr) (A : Cell) (o len : Nat) (args : Array Value) (s : State) : Prop := args = #[.ref b, .int (Int32.ofNat o), .int (Int32.ofNat len)] ∧ Ch b A s ∧ o + len ≤ A.slots.size ∧ len ≤ 536870912 ∧ ∀ i, i < len → ¬ 255 < cv A (o + i)
def E (b : Addr) (A : Cell) (o len : Nat) (r : Option Value) (s u : State) : Prop := NewArr .byte "[B" len (fun j => .int (lo8 (cv A (o + j)))) r s u ∧ u.heap.size = s.heap.size + 1
/-- no char of the range above 255: a new byte[] of their low bytes -/
theorem law (l : Launch) (b : Addr) (A : Cell) (o len : Nat) : Law l yN 3 3 1 18 yB 6 (some (.array .byte)) site (P b A o len) (E b A o len) [] 1 len := by
  refine Law.of_walk (plainFor_of_name (by decide +kernel)) (by decide +kernel) (by decide +kernel) (by decide) (fun _ _ h => by rw [h.1]; rfl) (fun _ U U' hal hh h => ⟨h.1, h.2.1.mv hal hh, h.2.2⟩) (fun r U U' V V' h1 hal h2 h => ⟨NewArr.mv r U U' V V' h1 hal h2 h.1, by rw [h1, h2]; exact h.2⟩) ?_
  intro p e s m args below meth c s₁ X0 hexec hbytes hml hret hlk hnm hown hh0 W hP
  obtain ⟨rfl, hA, l1, l2, hp⟩ := hP
  have a31 := hA.1.2.2.2
  have c1 : Steps p.tables e below (s₁.setTop (entryFrame m #[.ref b, .int (Int32.ofNat o), .int (Int32.ofNat len)] 6)) (s₁.setTop (mkF m 0 #[.val (.ref b), .val (.int (Int32.ofNat o)), .val (.int (Int32.ofNat len)), .unset, .unset, .unset] [])) := entry rfl
  have c2 : Steps p.tables e below (s₁.setTop (entryFrame m #[.ref b, .int (Int32.ofNat o), .int (Int32.ofNat len)] 6)) (s₁.setTop (mkF m 1 #[.val (.ref b), .val (.int (Int32.ofNat o)), .val (.int (Int32.ofNat len)), .unset, .unset, .unset] [.int (Int32.ofNat len)])) := c1.trans (by
    refine XS.iloadN X0.here hexec rfl (hb hbytes d0) rfl ?_
    exact Steps.refl _)
  obtain ⟨T3, B3, X3, ba3, bs3, bv3, bh3, bf3, st3⟩ := X0.anew hexec (atype := .byte) (wk W (.arrayClass .byte)) rfl (by show len * 1 ≤ _; omega) (by omega) (g := (mkF m 1 #[.val (.ref b), .val (.int (Int32.ofNat o)), .val (.int (Int32.ofNat len)), .unset, .unset, .unset] [.int (Int32.ofNat len)])) rfl (hb hbytes d1) (rest := []) rfl (Nat.le_refl _) (by show 0 + len ≤ len; omega)
  rw [hh0] at ba3 st3
  have kp3 : XT.Kept s T3 := (XT.Kept.of_eq hh0).push bh3
  have hA3 := hA.keep X3.warmed.alike (kp3 _ _ hA.1.1)
  have hne : b ≠ s.heap.size := hA.1.ne
  have c4 : Steps p.tables e below (s₁.setTop (entryFrame m #[.ref b, .int (Int32.ofNat o), .int (Int32.ofNat len)] 6)) (T3.setTop (mkF m 3 #[.val (.ref b), .val (.int (Int32.ofNat o)), .val (.int (Int32.ofNat len)), .unset, .unset, .unset] [.ref s.heap.size])) := c2.trans (st3 _ (Steps.refl _))
  have c5 : Steps p.tables e below (s₁.setTop (entryFrame m #[.ref b, .int (Int32.ofNat o), .int (Int32.ofNat len)] 6)) (T3.setTop (mkF m 9 #[.val (.ref b), .val (.int (Int32.ofNat o)), .val (.int (Int32.ofNat len)), .val (.ref s.heap.size), .unset, .unset] [.int (Int32.ofNat len), .int 0, .ref s.heap.size, .int (Int32.ofNat o), .ref b])) := c4.trans (by
    refine XS.astoreN X3.here hexec rfl (hb hbytes d3) rfl rfl rfl ?_
    refine XS.aloadN X3.here hexec rfl (hb hbytes d4) rfl rfl ?_
    refine XS.iloadN X3.here hexec rfl (hb hbytes d5) rfl ?_
    refine XS.aloadN X3.here hexec rfl (hb hbytes d6) rfl rfl ?_
    refine iconstV X3.here hexec rfl 0 (hb hbytes d7) (by decide) ?_
    refine XS.iloadN X3.here hexec rfl (hb hbytes d8) rfl ?_
    exact Steps.refl _)
  obtain ⟨v6, T6, X6, E6, g6⟩ := X3.callS hexec (Cmp5.law l b A s.heap.size B3 o 0 len) hown (wks W (staticW U16 115 Cmp5.yN)) (wk W Cmp5.tab) (W := 0) (Nat.le_of_ble_eq_true rfl) (Nat.le_of_ble_eq_true rfl) (Nat.le_refl _) (by show 0 + len + 0 ≤ len; omega) (g := (mkF m 9 #[.val (.ref b), .val (.int (Int32.ofNat o)), .val (.int (Int32.ofNat len)), .val (.ref s.heap.size), .unset, .unset] [.int (Int32.ofNat len), .int (Int32.ofNat 0), .ref s.heap.size, .int (Int32.ofNat o), .ref b])) rfl (by rw [hml]; rfl) c5 (argsL := [.ref b, .int (Int32.ofNat o), .ref s.heap.size, .int (Int32.ofNat 0), .int (Int32.ofNat len)]) (rest := []) rfl rfl (by show 2 * 0 + 0 ≤ _; decide) (hb hbytes d9) (⟨rfl, hA3, ba3, hne, l1, by rw [bs3]; simp, hp⟩)
  obtain ⟨rfl, B6, p6, f6⟩ := E6
  have c7 : Steps p.tables e below (s₁.setTop (entryFrame m #[.ref b, .int (Int32.ofNat o), .int (Int32.ofNat len)] 6)) (T6.setTop (mkF m 12 #[.val (.ref b), .val (.int (Int32.ofNat o)), .val (.int (Int32.ofNat len)), .val (.ref s.heap.size), .unset, .unset] [.int (Int32.ofNat len)])) := g6
  have c8 : Steps p.tables e below (s₁.setTop (entryFrame m #[.ref b, .int (Int32.ofNat o), .int (Int32.ofNat len)] 6)) (T6.setTop (mkF m 58 #[.val (.ref b), .val (.int (Int32.ofNat o)), .val (.int (Int32.ofNat len)), .val (.ref s.heap.size), .val (.int (Int32.ofNat len)), .unset] [.ref s.heap.size])) := c7.trans (by
    refine XS.istore X6.here hexec rfl (hb hbytes d12) rfl rfl ?_
    refine XS.iload X6.here hexec rfl (hb hbytes d14) rfl ?_
    refine XS.iloadN X6.here hexec rfl (hb hbytes d16) rfl ?_
    refine XS.icmpYes X6.here hexec rfl (pc0 := 17) rfl (hb hbytes d17) rfl (ii_eq_t rfl) (by decide) rfl ?_
    refine XS.aloadN X6.here hexec rfl (hb hbytes d57) rfl rfl ?_
    exact Steps.refl _)
  have X8 := X6.wide (L' := []) (cells' := 1) (slots' := len) (fun x hx hlt => by
    simp only [List.nil_append, copyLocs, List.mem_map, List.mem_range] at hx
    obtain ⟨i, -, rfl⟩ := hx
    exact absurd hlt (Nat.lt_irrefl _)) (Nat.le_refl _) (by omega)
  exact ⟨T6, some (.ref s.heap.size), _, _, _, X8, rfl, rfl, rfl, (fun h => by cases h), ⟨⟨rfl, B6, ba3.like (X3.warmed.alike.symm.trans X6.warmed.alike) p6.1 f6.1 f6.2.1 f6.2.2.1, f6.2.1.trans bv3, by rw [X6.warmed.alike.findClass, f6.1]; exact bf3, by rw [f6.2.2.1, bs3]; simp, fun j hj => by rw [f6.2.2.2 j, if_pos (by omega)]; rfl, kp3.put p6 (Nat.le_refl _)⟩, by rw [p6.2.2, bh3, hh0]; simp⟩, fun fs hl => c8.trans (X8.areturnOut hexec rfl hret rfl (hb hbytes d58) hl)⟩
end Cmp3
namespace CodL
def yN : MethodName := ⟨"java/lang/StringUTF16", "coderFromArrayLen", "([BI)B"⟩
abbrev yB : ByteArray := jdk_52_method_15_code
theorem d0 : decode yB 0 = .ok (.iload_n 1, 1) := by decide +kernel
theorem d1 : decode yB 1 = .ok (.aload_n 0, 1) := by decide +kernel
theorem d2 : decode yB 2 = .ok (.arraylength, 1) := by decide +kernel
theorem d3 : decode yB 3 = .ok (.isub, 1) := by decide +kernel
theorem d4 : decode yB 4 = .ok (.bipush 31, 2) := by decide +kernel
theorem d6 : decode yB 6 = .ok (.iushr, 1) := by decide +kernel
theorem d7 : decode yB 7 = .ok (.i2b, 1) := by decide +kernel
theorem d8 : decode yB 8 = .ok (.ireturn, 1) := by decide +kernel
def site : List Cond := []
def tab : Cond := tabOf yN yB 2 (some .byte) site
def P (d : Addr) (B : Cell) (args : Array Value) (s : State) : Prop := args = #[.ref d, .int (Int32.ofNat B.slots.size)] ∧ Arr .byte d B s
def E (r : Option Value) (s u : State) : Prop := XT.PureE (some (.int 0)) r s u
/-- an array as long as the number of chars: LATIN1 -/
theorem law (l : Launch) (d : Addr) (B : Cell) : Law l yN 2 2 0 0 yB 2 (some .byte) site (P d B) E [] 0 0 := by
  refine Law.of_walk (plainFor_of_name (by decide +kernel)) (by decide +kernel) (by decide +kernel) (by decide) (fun _ _ h => by rw [h.1]; rfl) (fun _ U U' hal hh h => ⟨h.1, h.2.mv hal hh⟩) (fun r U U' V V' h1 hal h2 h => XT.PureE.mv r U U' V V' h1 hal h2 h) ?_
  intro p e s m args below meth c s₁ X0 hexec hbytes hml hret hlk hnm hown hh0 W hP
  obtain ⟨rfl, hB⟩ := hP
  have hB0 := hB.mv X0.warmed.alike hh0
  have c1 : Steps p.tables e below (s₁.setTop (entryFrame m #[.ref d, .int (Int32.ofNat B.slots.size)] 2)) (s₁.setTop (mkF m 0 #[.val (.ref d), .val (.int (Int32.ofNat B.slots.size))] [])) := entry rfl
  have c2 : Steps p.tables e below (s₁.setTop (entryFrame m #[.ref d, .int (Int32.ofNat B.slots.size)] 2)) (s₁.setTop (mkF m 2 #[.val (.ref d), .val (.int (Int32.ofNat B.slots.size))] [.ref d, .int (Int32.ofNat B.slots.size)])) := c1.trans (by
    refine XS.iloadN X0.here hexec rfl (hb hbytes d0) rfl ?_
    refine XS.aloadN X0.here hexec rfl (hb hbytes d1) rfl rfl ?_
    exact Steps.refl _)
  have c3 : Steps p.tables e below (s₁.setTop (entryFrame m #[.ref d, .int (Int32.ofNat B.slots.size)] 2)) (s₁.setTop (mkF m 8 #[.val (.ref d), .val (.int (Int32.ofNat B.slots.size))] [.int (lo8 (ushr (Int32.ofNat B.slots.size - Int32.ofNat B.slots.size) 31))])) := c2.trans (by
    refine X0.alen hexec hB0 rfl rfl (hb hbytes d2) ?_
    refine XS.isub X0.here hexec rfl (hb hbytes d3) rfl ?_
    refine bipushV X0.here hexec rfl 31 (hb hbytes d4) (by decide) ?_
    refine iushr X0.here hexec rfl (hb hbytes d6) rfl ?_
    refine i2b X0.here hexec rfl (hb hbytes d7) rfl ?_
    exact Steps.refl _)
  have e0 : lo8 (ushr (Int32.ofNat B.slots.size - Int32.ofNat B.slots.size) 31) = 0 := by rw [Int32.sub_self]; decide
  rw [e0] at c3
  exact ⟨s₁, some (.int 0), _, _, _, X0, rfl, rfl, rfl, (fun h => by cases h), ⟨rfl, hh0⟩, fun fs hl => c3.trans (X0.ireturnOut hexec hret rfl (Or.inr (Or.inr (Or.inl rfl))) (hb hbytes d8) hl)⟩
end CodL
/-- the String at a is Latin-1 over a new byte[] (the heap's one new cell): the low bytes of the len chars of A from o on; every cell but a is kept -/
def Got (a : Addr) (D : Cell) (fV fC : Field) (A : Cell) (o len : Nat) (r : Option Value) (s u : State) : Prop := r = none ∧ ∃ D' V : Cell, Blank "java/lang/String" a D' u ∧ Same D D' [fV.slot, fC.slot] ∧ D'.slots[fV.slot]? = some (.ref s.heap.size) ∧ D'.slots[fC.slot]? = some (.int 0) ∧ Arr .byte s.heap.size V u ∧ V.vm = .none ∧ u.vm.findClass "[B" = some V.cls ∧ V.slots.size = len ∧ (∀ j, j < len → V.slots[j]? = some (.int (lo8 (cv A (o + j))))) ∧ (∀ (y : Addr) (c : Cell), y ≠ a → s.heap[y]? = some c → u.heap[y]? = some c) ∧ u.heap.size = s.heap.size + 1
theorem Got.mv {a : Addr} {D A : Cell} {fV fC : Field} {o len : Nat} : ∀ r (U U' V V' : State), U'.heap = U.heap → V.vm.Alike V'.vm → V'.heap = V.heap → Got a D fV fC A o len r U V → Got a D fV fC A o len r U' V' :=
  fun r U U' V V' h1 hal h2 ⟨e0, D', X, a1, a2, a3, a4, a5, a6, a7, a8, a9, a10, a11⟩ => ⟨e0, D', X, a1.mv hal h2, a2, by rw [h1]; exact a3, a4, by rw [h1]; exact a5.mv hal h2, a6, by rw [hal.findClass]; exact a7, a8, a9, by rw [h1, h2]; exact a10, by rw [h1, h2]; exact a11⟩
namespace New4
def yN : MethodName := ⟨"java/lang/String", "<init>", "([CIILjava/lang/Void;)V"⟩
abbrev yB : ByteArray := jdk_42_method_149_code
theorem d0 : decode yB 0 = .ok (.aload_n 0, 1) := by decide +kernel
theorem d1 : decode yB 1 = .ok (.invokespecial 1, 3) := by decide +kernel
theorem d4 : decode yB 4 = .ok (.iload_n 3, 1) := by decide +kernel
theorem d5 : decode yB 5 = .ok (.ifCond (.ne) 22, 3) := by decide +kernel
theorem d27 : decode yB 27 = .ok (.getstatic 38, 3) := by decide +kernel
theorem d30 : decode yB 30 = .ok (.ifCond (.eq) 28, 3) := by decide +kernel
theorem d33 : decode yB 33 = .ok (.aload_n 1, 1) := by decide +kernel
theorem d34 : decode yB 34 = .ok (.iload_n 2, 1) := by decide +kernel
theorem d35 : decode yB 35 = .ok (.iload_n 3, 1) := by decide +kernel
theorem d36 : decode yB 36 = .ok (.invokestatic 177, 3) := by decide +kernel
theorem d39 : decode yB 39 = .ok (.astore 5, 2) := by decide +kernel
theorem d41 : decode yB 41 = .ok (.aload_n 0, 1) := by decide +kernel
theorem d42 : decode yB 42 = .ok (.aload 5, 2) := by decide +kernel
theorem d44 : decode yB 44 = .ok (.iload_n 3, 1) := by decide +kernel
theorem d45 : decode yB 45 = .ok (.invokestatic 47, 3) := by decide +kernel
theorem d48 : decode yB 48 = .ok (.putfield 15, 3) := by decide +kernel
theorem d51 : decode yB 51 = .ok (.aload_n 0, 1) := by decide +kernel
theorem d52 : decode yB 52 = .ok (.aload 5, 2) := by decide +kernel
theorem d54 : decode yB 54 = .ok (.putfield 9, 3) := by decide +kernel
theorem d57 : decode yB 57 = .ok (.return_, 1) := by decide +kernel
def site : List Cond := [.fieldLink "java/lang/String" 38 "java/lang/String" "COMPACT_STRINGS" "Z", Cmp3.tab, CodL.tab, .laysFinal "java/lang/String" "java/lang/String" "value" "[B", .fieldLink "java/lang/String" 9 "java/lang/String" "value" "[B", .laysFinal "java/lang/String" "java/lang/String" "coder" "B", .fieldLink "java/lang/String" 15 "java/lang/String" "coder" "B"] ++ objW "java/lang/String" 1 ++ staticW "java/lang/String" 177 Cmp3.yN ++ staticW "java/lang/String" 47 CodL.yN
def tab : Cond := tabOf yN yB 6 none site
def P (a : Addr) (D : Cell) (fV fC : Field) (b : Addr) (A : Cell) (z : Int32) (o len : Nat) (args : Array Value) (s : State) : Prop := args = #[.ref a, .ref b, .int (Int32.ofNat o), .int (Int32.ofNat len), .null] ∧ Blank "java/lang/String" a D s ∧ Found "java/lang/String" "value" "[B" fV s ∧ Found "java/lang/String" "coder" "B" fC s ∧ Ch b A s ∧ StaticIs s "java/lang/String" "COMPACT_STRINGS" "Z" (.int z) ∧ ¬ z = 0 ∧ 0 < len ∧ o + len ≤ A.slots.size ∧ len ≤ 536870912 ∧ ∀ i, i < len → ¬ 255 < cv A (o + i)
def E (a : Addr) (D : Cell) (fV fC : Field) (A : Cell) (o len : Nat) (r : Option Value) (s u : State) : Prop := Got a D fV fC A o len r s u
/-- len > 0, no char of the range above 255: a Latin-1 String of their low bytes -/
theorem law (l : Launch) (a : Addr) (D : Cell) (fV fC : Field) (b : Addr) (A : Cell) (z : Int32) (o len : Nat) : Law l yN 5 4 2 35 yB 6 none site (P a D fV fC b A z o len) (E a D fV fC A o len) [⟨a, fC.slot⟩, ⟨a, fV.slot⟩] 1 len := by
  refine Law.of_walk (plainFor_of_name (by decide +kernel)) (by decide +kernel) (by decide +kernel) (by decide) (fun _ _ h => by rw [h.1]; rfl) (fun _ U U' hal hh h => ⟨h.1, h.2.1.mv hal hh, h.2.2.1.al hal, h.2.2.2.1.al hal, h.2.2.2.2.1.mv hal hh, h.2.2.2.2.2.1.there hal hh, h.2.2.2.2.2.2⟩) (fun r U U' V V' h1 hal h2 h => Got.mv r U U' V V' h1 hal h2 h) ?_
  intro p e s m args below meth c s₁ X0 hexec hbytes hml hret hlk hnm hown hh0 W hP
  obtain ⟨rfl, hB, f1, f2, hA, s1, hz, l0, l1, l2, hp⟩ := hP
  have a31 := hA.1.2.2.2
  have c1 : Steps p.tables e below (s₁.setTop (entryFrame m #[.ref a, .ref b, .int (Int32.ofNat o), .int (Int32.ofNat len), .null] 6)) (s₁.setTop (mkF m 0 #[.val (.ref a), .val (.ref b), .val (.int (Int32.ofNat o)), .val (.int (Int32.ofNat len)), .val .null, .unset] [])) := entry rfl
  have c2 : Steps p.tables e below (s₁.setTop (entryFrame m #[.ref a, .ref b, .int (Int32.ofNat o), .int (Int32.ofNat len), .null] 6)) (s₁.setTop (mkF m 1 #[.val (.ref a), .val (.ref b), .val (.int (Int32.ofNat o)), .val (.int (Int32.ofNat len)), .val .null, .unset] [.ref a])) := c1.trans (by
    refine XS.aloadN X0.here hexec rfl (hb hbytes d0) rfl rfl ?_
    exact Steps.refl _)
  obtain ⟨T3, X3, q3, st3⟩ := X0.oinit hexec hown (wks W (objW "java/lang/String" 1)) (g := (mkF m 1 #[.val (.ref a), .val (.ref b), .val (.int (Int32.ofNat o)), .val (.int (Int32.ofNat len)), .val .null, .unset] [.ref a])) rfl (by rw [hml]; rfl) (rest := []) rfl (hb hbytes d1) (W := 0) (by show 2 * 0 + 0 ≤ _; decide) (Nat.le_of_ble_eq_true rfl) (Nat.le_of_ble_eq_true rfl)
  have hh3 := q3.trans hh0
  have c4 : Steps p.tables e below (s₁.setTop (entryFrame m #[.ref a, .ref b, .int (Int32.ofNat o), .int (Int32.ofNat len), .null] 6)) (T3.setTop (mkF m 27 #[.val (.ref a), .val (.ref b), .val (.int (Int32.ofNat o)), .val (.int (Int32.ofNat len)), .val .null, .unset] [])) := (c2.trans (st3 _ (Steps.refl _))).trans (by
    refine XS.iloadN X3.here hexec rfl (hb hbytes d4) rfl ?_
    refine XS.ifYes X3.here hexec rfl (pc0 := 5) rfl (hb hbytes d5) rfl (i0_ne_t (nz32 (by omega) l0)) (by decide) rfl ?_
    exact Steps.refl _)
  obtain ⟨T5, X5, q5, st5⟩ := X3.sget hexec hown (wk W (.fieldLink "java/lang/String" 38 "java/lang/String" "COMPACT_STRINGS" "Z")) s1 (fun _ _ h => by rw [hh3]; exact h) (g := (mkF m 27 #[.val (.ref a), .val (.ref b), .val (.int (Int32.ofNat o)), .val (.int (Int32.ofNat len)), .val .null, .unset] [])) rfl (hb hbytes d27)
  have hh5 := q5.trans hh3
  have c6 : Steps p.tables e below (s₁.setTop (entryFrame m #[.ref a, .ref b, .int (Int32.ofNat o), .int (Int32.ofNat len), .null] 6)) (T5.setTop (mkF m 30 #[.val (.ref a), .val (.ref b), .val (.int (Int32.ofNat o)), .val (.int (Int32.ofNat len)), .val .null, .unset] [.int z])) := c4.trans (st5 _ (Steps.refl _))
  have c7 : Steps p.tables e below (s₁.setTop (entryFrame m #[.ref a, .ref b, .int (Int32.ofNat o), .int (Int32.ofNat len), .null] 6)) (T5.setTop (mkF m 36 #[.val (.ref a), .val (.ref b), .val (.int (Int32.ofNat o)), .val (.int (Int32.ofNat len)), .val .null, .unset] [.int (Int32.ofNat len), .int (Int32.ofNat o), .ref b])) := c6.trans (by
    refine XS.ifNo X5.here hexec rfl (hb hbytes d30) rfl (i0_eq_f hz) ?_
    refine XS.aloadN X5.here hexec rfl (hb hbytes d33) rfl rfl ?_
    refine XS.iloadN X5.here hexec rfl (hb hbytes d34) rfl ?_
    refine XS.iloadN X5.here hexec rfl (hb hbytes d35) rfl ?_
    exact Steps.refl _)
  obtain ⟨v8, T8, X8, E8, g8⟩ := X5.callS hexec (Cmp3.law l b A o len) hown (wks W (staticW "java/lang/String" 177 Cmp3.yN)) (wk W Cmp3.tab) (W := 0) (Nat.le_of_ble_eq_true rfl) (Nat.le_of_ble_eq_true rfl) (Nat.le_refl _) (by show 0 + len ≤ len; omega) (g := (mkF m 36 #[.val (.ref a), .val (.ref b), .val (.int (Int32.ofNat o)), .val (.int (Int32.ofNat len)), .val .null, .unset] [.int (Int32.ofNat len), .int (Int32.ofNat o), .ref b])) rfl (by rw [hml]; rfl) c7 (argsL := [.ref b, .int (Int32.ofNat o), .int (Int32.ofNat len)]) (rest := []) rfl rfl (by show 2 * 0 + 0 ≤ _; decide) (hb hbytes d36) (⟨rfl, hA.mv X5.warmed.alike hh5, l1, l2, hp⟩)
  obtain ⟨e8, z8⟩ := E8
  obtain ⟨rfl, N, n1, n2, n3, n4, n5, n6⟩ := NewArr.mv _ T5 s _ _ hh5.symm (Vm.Alike.refl _) rfl e8
  rw [hh5] at z8
  have hB1 := hB.keep X8.warmed.alike (n6 _ _ hB.1)
  have hne : s.heap.size ≠ a := (Nat.ne_of_lt (Array.getElem?_eq_some_iff.mp hB.1).1).symm
  have c9 : Steps p.tables e below (s₁.setTop (entryFrame m #[.ref a, .ref b, .int (Int32.ofNat o), .int (Int32.ofNat len), .null] 6)) (T8.setTop (mkF m 39 #[.val (.ref a), .val (.ref b), .val (.int (Int32.ofNat o)), .val (.int (Int32.ofNat len)), .val .null, .unset] [.ref s.heap.size])) := g8
  have c10 : Steps p.tables e below (s₁.setTop (entryFrame m #[.ref a, .ref b, .int (Int32.ofNat o), .int (Int32.ofNat len), .null] 6)) (T8.setTop (mkF m 45 #[.val (.ref a), .val (.ref b), .val (.int (Int32.ofNat o)), .val (.int (Int32.ofNat len)), .val .null, .val (.ref s.heap.size)] [.int (Int32.ofNat N.slots.size), .ref s.heap.size, .ref a])) := by
    have hc : Steps p.tables e below (s₁.setTop (entryFrame m #[.ref a, .ref b, .int (Int32.ofNat o), .int (Int32.ofNat len), .null] 6)) (T8.setTop (mkF m 45 #[.val (.ref a), .val (.ref b), .val (.int (Int32.ofNat o)), .val (.int (Int32.ofNat len)), .val .null, .val (.ref s.heap.size)] [.int (Int32.ofNat len), .ref s.heap.size, .ref a])) := c9.trans (by
      refine XS.astore X8.here hexec rfl (hb hbytes d39) rfl rfl rfl ?_
      refine XS.aloadN X8.here hexec rfl (hb hbytes d41) rfl rfl ?_
      refine XS.aload X8.here hexec rfl (hb hbytes d42) rfl rfl ?_
      refine XS.iloadN X8.here hexec rfl (hb hbytes d44) rfl ?_
      exact Steps.refl _)
    rw [n4]; exact hc
  obtain ⟨v11, T11, X11, E11, g11⟩ := X8.callS hexec (CodL.law l s.heap.size N) hown (wks W (staticW "java/lang/String" 47 CodL.yN)) (wk W CodL.tab) (W := 1) (Nat.le_of_ble_eq_true rfl) (Nat.le_of_ble_eq_true rfl) (Nat.le_refl _) (by show 0 + len + 0 ≤ len; omega) (g := (mkF m 45 #[.val (.ref a), .val (.ref b), .val (.int (Int32.ofNat o)), .val (.int (Int32.ofNat len)), .val .null, .val (.ref s.heap.size)] [.int (Int32.ofNat N.slots.size), .ref s.heap.size, .ref a])) rfl (by rw [hml]; rfl) c10 (argsL := [.ref s.heap.size, .int (Int32.ofNat N.slots.size)]) (rest := [.ref a]) rfl rfl (by show 2 * 0 + (1 + 0) ≤ _; decide) (hb hbytes d45) (⟨rfl, n1⟩)
  obtain ⟨rfl, q11⟩ := E11
  have hB11 := hB1.mv (X8.warmed.alike.symm.trans X11.warmed.alike) q11
  have c12 : Steps p.tables e below (s₁.setTop (entryFrame m #[.ref a, .ref b, .int (Int32.ofNat o), .int (Int32.ofNat len), .null] 6)) (T11.setTop (mkF m 48 #[.val (.ref a), .val (.ref b), .val (.int (Int32.ofNat o)), .val (.int (Int32.ofNat len)), .val .null, .val (.ref s.heap.size)] [.int 0, .ref a])) := g11
  obtain ⟨T13, X13, p13, bl13, sl13, st13⟩ := X11.finit hexec hown (wk W (.fieldLink "java/lang/String" 15 "java/lang/String" "coder" "B")) (Or.inr ⟨_, (wk W (.laysFinal "java/lang/String" "java/lang/String" "coder" "B"))⟩) (Or.inl ⟨rfl, hnm⟩) f2 (Or.inl rfl) hB11 (t := .byte) (by decide +kernel) rfl (g := (mkF m 48 #[.val (.ref a), .val (.ref b), .val (.int (Int32.ofNat o)), .val (.int (Int32.ofNat len)), .val .null, .val (.ref s.heap.size)] [.int 0, .ref a])) rfl (rest := []) rfl (hb hbytes d48)
  have c14 : Steps p.tables e below (s₁.setTop (entryFrame m #[.ref a, .ref b, .int (Int32.ofNat o), .int (Int32.ofNat len), .null] 6)) (T13.setTop (mkF m 54 #[.val (.ref a), .val (.ref b), .val (.int (Int32.ofNat o)), .val (.int (Int32.ofNat len)), .val .null, .val (.ref s.heap.size)] [.ref s.heap.size, .ref a])) := (c12.trans (st13 _ (Steps.refl _))).trans (by
    refine XS.aloadN X13.here hexec rfl (hb hbytes d51) rfl rfl ?_
    refine XS.aload X13.here hexec rfl (hb hbytes d52) rfl rfl ?_
    exact Steps.refl _)
  obtain ⟨T15, X15, p15, bl15, sl15, st15⟩ := X13.finit hexec hown (wk W (.fieldLink "java/lang/String" 9 "java/lang/String" "value" "[B")) (Or.inr ⟨_, (wk W (.laysFinal "java/lang/String" "java/lang/String" "value" "[B"))⟩) (Or.inl ⟨rfl, hnm⟩) f1 (Or.inl rfl) bl13 (t := (.array .byte)) (by decide +kernel) rfl (g := (mkF m 54 #[.val (.ref a), .val (.ref b), .val (.int (Int32.ofNat o)), .val (.int (Int32.ofNat len)), .val .null, .val (.ref s.heap.size)] [.ref s.heap.size, .ref a])) rfl (rest := []) rfl (hb hbytes d54)
  have c16 : Steps p.tables e below (s₁.setTop (entryFrame m #[.ref a, .ref b, .int (Int32.ofNat o), .int (Int32.ofNat len), .null] 6)) (T15.setTop (mkF m 57 #[.val (.ref a), .val (.ref b), .val (.int (Int32.ofNat o)), .val (.int (Int32.ofNat len)), .val .null, .val (.ref s.heap.size)] [])) := c14.trans (st15 _ (Steps.refl _))
  have ap := apart (Or.inr ⟨_, (wk W (.laysFinal "java/lang/String" "java/lang/String" "value" "[B"))⟩) (Or.inr ⟨_, (wk W (.laysFinal "java/lang/String" "java/lang/String" "coder" "B"))⟩) f1 f2 (t₁ := .array .byte) (t₂ := .byte) (by decide +kernel) (by decide +kernel) (by decide)
  have al := X8.warmed.alike.symm.trans X15.warmed.alike
  have n7 : T11.heap[s.heap.size]? = some N := by rw [q11]; exact n1.1
  exact ⟨T15, none, _, _, _, X15, by simp, rfl, by omega, (fun _ => rfl), ⟨rfl, _, N, bl15, ((Same.refl D _).set _ (by simp)).set _ (by simp), sl15, (Cell.slots_setSlot_ne _ ap).trans sl13, n1.keep al (p15.other hne (p13.other hne n7)), n2, by rw [al.findClass]; exact n3, n4, n5, fun y c h1 h2 => p15.other h1 (p13.other h1 (by rw [q11]; exact n6 y c h2)), by rw [p15.2.2, p13.2.2, q11]; exact z8⟩, fun fs hl => c16.trans (X15.returnOut hexec hret (hb hbytes d57) hl)⟩
end New4
namespace New1
def yN : MethodName := ⟨"java/lang/String", "<init>", "([C)V"⟩
abbrev yB : ByteArray := jdk_42_method_3_code
theorem d0 : decode yB 0 = .ok (.aload_n 0, 1) := by decide +kernel
theorem d1 : decode yB 1 = .ok (.aload_n 1, 1) := by decide +kernel
theorem d2 : decode yB 2 = .ok (.iconst 0, 1) := by decide +kernel
theorem d3 : decode yB 3 = .ok (.aload_n 1, 1) := by decide +kernel
theorem d4 : decode yB 4 = .ok (.arraylength, 1) := by decide +kernel
theorem d5 : decode yB 5 = .ok (.aconst_null, 1) := by decide +kernel
theorem d6 : decode yB 6 = .ok (.invokespecial 27, 3) := by decide +kernel
theorem d9 : decode yB 9 = .ok (.return_, 1) := by decide +kernel
def site : List Cond := [New4.tab] ++ initW "java/lang/String" 27 New4.yN
def tab : Cond := tabOf yN yB 2 none site
def P (a : Addr) (D : Cell) (fV fC : Field) (b : Addr) (A : Cell) (z : Int32) (args : Array Value) (s : State) : Prop := args = #[.ref a, .ref b] ∧ Blank "java/lang/String" a D s ∧ Found "java/lang/String" "value" "[B" fV s ∧ Found "java/lang/String" "coder" "B" fC s ∧ Ch b A s ∧ StaticIs s "java/lang/String" "COMPACT_STRINGS" "Z" (.int z) ∧ ¬ z = 0 ∧ 0 < A.slots.size ∧ A.slots.size ≤ 536870912 ∧ ∀ i, i < A.slots.size → ¬ 255 < cv A i
def E (a : Addr) (D : Cell) (fV fC : Field) (A : Cell) (r : Option Value) (s u : State) : Prop := Got a D fV fC A 0 A.slots.size r s u
/-- new String(chars), not empty, no char above 255: a Latin-1 String of their low bytes -/
theorem law (l : Launch) (a : Addr) (D : Cell) (fV fC : Field) (b : Addr) (A : Cell) (z : Int32) : Law l yN 2 1 3 52 yB 2 none site (P a D fV fC b A z) (E a D fV fC A) [⟨a, fC.slot⟩, ⟨a, fV.slot⟩] 1 A.slots.size := by
  refine Law.of_walk (plainFor_of_name (by decide +kernel)) (by decide +kernel) (by decide +kernel) (by decide) (fun _ _ h => by rw [h.1]; rfl) (fun _ U U' hal hh h => ⟨h.1, h.2.1.mv hal hh, h.2.2.1.al hal, h.2.2.2.1.al hal, h.2.2.2.2.1.mv hal hh, h.2.2.2.2.2.1.there hal hh, h.2.2.2.2.2.2⟩) (fun r U U' V V' h1 hal h2 h => Got.mv r U U' V V' h1 hal h2 h) ?_
  intro p e s m args below meth c s₁ X0 hexec hbytes hml hret hlk hnm hown hh0 W hP
  obtain ⟨rfl, hB, f1, f2, hA, s1, hz, l0, l2, hp⟩ := hP
  have c1 : Steps p.tables e below (s₁.setTop (entryFrame m #[.ref a, .ref b] 2)) (s₁.setTop (mkF m 0 #[.val (.ref a), .val (.ref b)] [])) := entry rfl
  have c2 : Steps p.tables e below (s₁.setTop (entryFrame m #[.ref a, .ref b] 2)) (s₁.setTop (mkF m 6 #[.val (.ref a), .val (.ref b)] [.null, .int (Int32.ofNat A.slots.size), .int 0, .ref b, .ref a])) := c1.trans (by
    refine XS.aloadN X0.here hexec rfl (hb hbytes d0) rfl rfl ?_
    refine XS.aloadN X0.here hexec rfl (hb hbytes d1) rfl rfl ?_
    refine iconstV X0.here hexec rfl 0 (hb hbytes d2) (by decide) ?_
    refine XS.aloadN X0.here hexec rfl (hb hbytes d3) rfl rfl ?_
    refine X0.alen hexec (hA.1.mv X0.warmed.alike hh0) rfl rfl (hb hbytes d4) ?_
    refine XS.aconstNull X0.here hexec rfl (hb hbytes d5) ?_
    exact Steps.refl _)
  obtain ⟨v3, T3, X3, E3, g3⟩ := X0.callN hexec (New4.law l a D fV fC b A z 0 A.slots.size) rfl hown (wks W (initW "java/lang/String" 27 New4.yN)) (W New4.tab (by simp only [site, List.mem_cons, List.mem_append, true_or, or_true])) (W := 0) (Nat.le_of_ble_eq_true rfl) (Nat.le_of_ble_eq_true rfl) (Nat.le_refl _) (by show 0 + A.slots.size ≤ A.slots.size; omega) (g := (mkF m 6 #[.val (.ref a), .val (.ref b)] [.null, .int (Int32.ofNat A.slots.size), .int (Int32.ofNat 0), .ref b, .ref a])) rfl (by rw [hml]; rfl) c2 (argsL := [.ref b, .int (Int32.ofNat 0), .int (Int32.ofNat A.slots.size), .null]) (rest := []) rfl rfl (by show 2 * 0 + 0 ≤ _; decide) (hb hbytes d6) (⟨rfl, hB.mv X0.warmed.alike hh0, f1.al X0.warmed.alike, f2.al X0.warmed.alike, hA.mv X0.warmed.alike hh0, s1.there X0.warmed.alike hh0, hz, l0, by omega, l2, fun i hi => by rw [Nat.zero_add]; exact hp i hi⟩)
  have e0 := Got.mv _ s₁ s _ _ hh0.symm (Vm.Alike.refl _) rfl E3
  obtain rfl := e0.1
  have c4 : Steps p.tables e below (s₁.setTop (entryFrame m #[.ref a, .ref b] 2)) (T3.setTop (mkF m 9 #[.val (.ref a), .val (.ref b)] [])) := g3
  exact ⟨T3, none, _, _, _, X3, by simp, rfl, by omega, (fun _ => rfl), e0, fun fs hl => c4.trans (X3.returnOut hexec hret (hb hbytes d9) hl)⟩
theorem pays {l : Launch} {R : Room} {p : Program} {e : Env} {below : List Frame} {s : State} {sargs : Array Value} {len W : Nat} (a : Addr) (D : Cell) (fV fC : Field) (b : Addr) (A : Cell) (z : Int32) (htab : tab.before sargs s = true) (hfr : 4 ≤ R.frames) (hlo : W + 65 ≤ R.locals) :
    Back l R p e below s sargs yN len W (fun A₁ a₁ => A₁.cells + 1 ≤ R.cells ∧ A₁.slots + A.slots.size ≤ R.slots ∧ P a D fV fC b A z a₁ A₁.U) (fun A₁ _ v₁ B₁ => E a D fV fC A v₁ A₁.U B₁.U ∧ B₁.locs = A₁.locs ++ [⟨a, fC.slot⟩, ⟨a, fV.slot⟩] ∧ B₁.cells = A₁.cells + 1 ∧ B₁.slots = A₁.slots + A.slots.size) :=
  (law l a D fV fC b A z).pays htab hfr (by omega)
end New1
end StrChars
namespace StrChars.Road
open Jvm Sem ClassFile Op Lib Jvm.Stand Jvm.Free Jvm.Free.XT
open Jvm.Lib.Cold (StaticIs)
abbrev ST : String := "java/lang/String"
/-- every table word that New1's law asks, flat -/
abbrev words : List Jvm.Cond := [.code New1.yN New1.yB 2 none, .initialized ST, .methodLink ST 27 New4.yN, .instanceMethod New4.yN,
  .code New4.yN New4.yB 6 none, .fieldLink ST 38 ST "COMPACT_STRINGS" "Z", .laysFinal ST ST "value" "[B", .fieldLink ST 9 ST "value" "[B", .laysFinal ST ST "coder" "B", .fieldLink ST 15 ST "coder" "B",
  .methodLink ST 1 Lib.objectInit, .instanceMethod Lib.objectInit, .code Lib.objectInit ⟨#[0xb1]⟩ 1 none, .methodLink ST 177 Cmp3.yN, .static Cmp3.yN, .methodLink ST 47 CodL.yN, .static CodL.yN,
  .code Cmp3.yN Cmp3.yB 6 (some (.array .byte)), .initialized U16, .arrayClass .byte, .methodLink U16 115 Cmp5.yN, .static Cmp5.yN, .code Cmp5.yN Cmp5.yB 7 (some .int), .code CodL.yN CodL.yB 2 (some .byte)]
theorem tab_of {a : Array Value} {s : State} (h : ∀ w ∈ words, w.before a s = true) : New1.tab.before a s = true := by
  have h5 : Cmp5.tab.before a s = true := unparts (wk h (.code Cmp5.yN Cmp5.yB 7 (some .int))) (wks h (.initialized Cmp5.yN.cls :: Cmp5.site))
  have hc : CodL.tab.before a s = true := unparts (wk h (.code CodL.yN CodL.yB 2 (some .byte))) (wks h (.initialized CodL.yN.cls :: CodL.site))
  have q5 : ∀ w ∈ Cmp5.tab :: words, w.before a s = true := fun w hw => (List.mem_cons.mp hw).elim (fun e => e ▸ h5) (h w)
  have h3 : Cmp3.tab.before a s = true := unparts (wk q5 (.code Cmp3.yN Cmp3.yB 6 (some (.array .byte)))) (wks q5 (.initialized Cmp3.yN.cls :: Cmp3.site))
  have q3 : ∀ w ∈ Cmp3.tab :: CodL.tab :: words, w.before a s = true := fun w hw => (List.mem_cons.mp hw).elim (fun e => e ▸ h3) fun hw => (List.mem_cons.mp hw).elim (fun e => e ▸ hc) (h w)
  have h4 : New4.tab.before a s = true := unparts (wk q3 (.code New4.yN New4.yB 6 none)) (wks q3 (.initialized New4.yN.cls :: New4.site))
  have q4 : ∀ w ∈ New4.tab :: words, w.before a s = true := fun w hw => (List.mem_cons.mp hw).elim (fun e => e ▸ h4) (h w)
  exact unparts (wk q4 (.code New1.yN New1.yB 2 none)) (wks q4 (.initialized New1.yN.cls :: New1.site))
/-- the words ride from the start Z to the walk's own state -/
theorem moved {Z s : State} {a0 args : Array Value} (hZ : Z.Warmed39 s.vm) (hw : ∀ d ∈ words, d.before a0 Z = true) : ∀ d ∈ words, d.before args s = true := fun d hd => by
  have q := hw d hd
  have t : ∀ d ∈ words, d = .arrayClass .byte ∨ (d.onTables && d.keepsFace) = true := by decide +kernel
  rcases t d hd with rfl | t
  · exact RoadKit.mvA hZ q
  · exact RoadKit.mv hZ q t
/-- WHAT COMES BACK, over the tables of the start Z: h the heap at the call, h' behind it -/
def Q (Z : State) (x : Addr) (A : Cell) (h : Heap) (v : Option Value) (h' : Heap) (L : List Loc) : Prop := v = none ∧ (∀ y ∈ L, y.base = x) ∧ RoadKit.Keep h h' [x] ∧ h'.size = h.size + 1 ∧ RoadKit.Exa Z h' x ST ∧ RoadKit.Fld Z h' x ST "value" "[B" (.ref h.size) ∧ RoadKit.Fld Z h' x ST "coder" "B" (.int 0) ∧
  (∃ V : Cell, RoadKit.Arr Z h' h.size V .byte ∧ V.vm = .none ∧ Z.vm.findClass "[B" = some V.cls ∧ V.slots.size = A.slots.size ∧ ∀ j, j < A.slots.size → V.slots[j]? = some (.int (lo8 (cv A j)))) ∧
  ∀ (O n d : String) (w : Value), RoadKit.Fld Z h x O n d w → RoadKit.slotOf Z O n d ≠ RoadKit.slotOf Z ST "value" "[B" → RoadKit.slotOf Z O n d ≠ RoadKit.slotOf Z ST "coder" "B" → RoadKit.Fld Z h' x O n d w
/-- **new String(chars) AT A CALL, IN THE ROAD'S FORM**: for specialBack behind newO: x the fresh String, b the char[] with the cell A -/
theorem back {p : Program} {l : Launch} {e : Env} {R : Room} {s : State} {args : Array Value} {below : List Frame} {len W : Nat} {Z : State} {a0 : Array Value} {h : Heap} (hZ : Z.Warmed39 s.vm) (hw : ∀ d ∈ words, d.before a0 Z = true) {kI : Nat} (wi : (Jvm.Cond.instantiable ST kI).before a0 Z = true)
    {x b : Addr} {A : Cell} {z : Int32} {v0 c0 : Value} (E : RoadKit.Exa Z h x ST) (V : RoadKit.Fld Z h x ST "value" "[B" v0) (C : RoadKit.Fld Z h x ST "coder" "B" c0) (K : RoadKit.Arr Z h b A .char) (hty : Typed .char A) (S : RoadKit.Sta Z h ST "COMPACT_STRINGS" "Z" (.int z)) (hz : ¬ z = 0)
    (l0 : 0 < A.slots.size) (l2 : A.slots.size ≤ 536870912) (hp : ∀ i, i < A.slots.size → ¬ 255 < cv A i) (hfr : 4 ≤ R.frames) (hlo : W + 65 ≤ R.locals) :
    Back l R p e below s args New1.yN len W (fun P a => a = #[.ref x, .ref b] ∧ P.U.heap = h ∧ P.cells + 1 ≤ R.cells ∧ P.slots + A.slots.size ≤ R.slots)
      (fun P _ v B => ∃ L, Q Z x A h v B.U.heap L ∧ B.locs = P.locs ++ L ∧ B.cells = P.cells + 1 ∧ B.slots = P.slots + A.slots.size) := by
  intro m meth c P g ig mk a X hg hsize hdg hW hn hp'
  obtain ⟨rfl, rfl, r1, r2⟩ := hp'
  have al : Z.vm.Alike P.U.vm := hZ.alike.trans X.warmed.alike
  obtain ⟨D, cfV, kV, iV, fV, hD, gV, stV, knV, obV, asV, slV⟩ := id V
  obtain ⟨D', cfC, kC, iC, fC, hD', gC, stC, -, -, asC, slC⟩ := id C
  cases hD.symm.trans hD'
  obtain ⟨D2, kD, e1, e2, e3, e4, e5⟩ := id E
  cases hD.symm.trans e1
  obtain ⟨c2, k2, i1, i2, i3, -⟩ := Cond.instantiable_spec wi
  cases e2.symm.trans i1
  cases e3.symm.trans i2
  obtain ⟨kU, u1, u2⟩ := al.2.2 _ _ e3
  have hB : Blank ST x D P.U := ⟨hD, ⟨knV, fun q hq => by rw [hq] at obV; cases obV⟩, by rw [al.findClass]; exact e2, kU, u1, by rw [u2]; exact i3, by rw [u2]; exact e5 i3⟩
  have F1 : Found ST "value" "[B" fV P.U := ⟨SBG.found_only al ⟨cfV, kV, iV, gV⟩, stV⟩
  have F2 : Found ST "coder" "B" fC P.U := ⟨SBG.found_only al ⟨cfC, kC, iC, gC⟩, stC⟩
  have hA : Ch b A P.U := ⟨⟨K.1, State.isArrayOf_alike al K.2.1, K.2.2, by omega⟩, hty⟩
  have hS : StaticIs P.U ST "COMPACT_STRINGS" "Z" (.int z) := by
    obtain ⟨cfS, iS, kS, fS, st, cS, t1, t2, t3, t4, t5, t6, t7⟩ := S
    exact StaticIs.there (s := { Z with heap := P.U.heap }) ⟨cfS, iS, kS, fS, st, cS, t1, t2, t3, t4, t5, (fun q => by rw [q] at t6; cases t6), t7⟩ al rfl
  obtain ⟨v, B, X', ⟨⟨hv, E', V', q1, q2, q3, q4, q5, q6, q7, q8, q9, q10, q11⟩, hl, hc, hs⟩, st⟩ := New1.pays x D fV fC b A z (tab_of (moved hZ hw)) hfr hlo m meth c P g ig mk _ X hg hsize hdg hW hn ⟨r1, r2, rfl, hB, F1, F2, hA, hS, hz, l0, l2, hp⟩
  have al' : Z.vm.Alike B.U.vm := hZ.alike.trans X'.warmed.alike
  have hsz : E'.slots.size = D.slots.size := by
    obtain ⟨-, -, -, kB, w1, w2, w3⟩ := q1
    obtain ⟨kB', y1, y2⟩ := al'.2.2 _ _ e3
    rw [q2.2.1] at w1
    cases w1.symm.trans y1
    rw [w3, e5 i3, y2]
  refine ⟨v, B, X', ⟨_, ⟨hv, ?_, ⟨by omega, fun y cy hy hn' => q10 y cy (by simpa using hn') hy, fun y cy hy => ?_⟩, q11, ⟨E', _, q1.1, by rw [q2.2.1]; exact e2, by rw [q2.2.1]; exact e3, by rw [q2.1]; exact obV, fun _ => by rw [hsz]; exact e5 i3⟩,
    ⟨E', cfV, kV, iV, fV, q1.1, gV, stV, by rw [q2.1]; exact knV, by rw [q2.1]; exact obV, by rw [q2.2.1]; exact asV, q3⟩, ⟨E', cfC, kC, iC, fC, q1.1, gC, stC, by rw [q2.1]; exact knV, by rw [q2.1]; exact obV, by rw [q2.2.1]; exact asC, q4⟩,
    ⟨V', ⟨q5.1, State.isArrayOf_alike al'.symm q5.2.1, q5.2.2.1⟩, q6, by rw [← al'.findClass]; exact q7, q8, fun j hj => by have := q9 j hj; rwa [Nat.zero_add] at this⟩, fun O n d w F n1 n2 => ?_⟩, hl, hc, hs⟩, st⟩
  · intro y hy
    simp only [List.mem_cons, List.not_mem_nil, or_false] at hy
    rcases hy with rfl | rfl <;> rfl
  · by_cases q : y = x
    · subst q
      cases hD.symm.trans hy
      exact ⟨E', q1.1, q2.2.1, q2.1, hsz⟩
    · exact ⟨cy, q10 y cy q hy, rfl, rfl, rfl⟩
  · obtain ⟨D3, cf, k, i, f, g1, g2, g3, g4, g5, g6, g7⟩ := F
    cases hD.symm.trans g1
    simp only [RoadKit.slotOf, g2, gV, gC, Option.map_some, Option.getD_some] at n1 n2
    exact ⟨E', cf, k, i, f, q1.1, g2, g3, by rw [q2.1]; exact g4, by rw [q2.1]; exact g5, by rw [q2.2.1]; exact g6, by rw [q2.2.2 f.slot (by simp [n1, n2])]; exact g7⟩
end StrChars.Road
namespace StrChars.Road
open Jvm Sem ClassFile Op Lib Jvm.Stand Jvm.Free Jvm.Free.XT
/-- WHAT COMES BACK, the byte[] as a list of values -/
def QA (Z : State) (x : Addr) (zn : Int32) (cs : List Int32) (h : Heap) (v : Option Value) (h' : Heap) (L : List Loc) : Prop := v = none ∧ (∀ y ∈ L, y.base = x) ∧ RoadKit.Keep h h' [x] ∧ h'.size = h.size + 1 ∧ RoadKit.Exa Z h' x ST ∧ RoadKit.Fld Z h' x ST "value" "[B" (.ref h.size) ∧ RoadKit.Fld Z h' x ST "coder" "B" (.int 0) ∧
  (∃ kb, Z.vm.findClass "[B" = some kb ∧ RoadKit.Arv Z h' h.size kb .byte zn (cs.map fun c => .int (lo8 c)) (.int 0)) ∧
  ∀ (O n d : String) (w : Value), RoadKit.Fld Z h x O n d w → RoadKit.slotOf Z O n d ≠ RoadKit.slotOf Z ST "value" "[B" → RoadKit.slotOf Z O n d ≠ RoadKit.slotOf Z ST "coder" "B" → RoadKit.Fld Z h' x O n d w
/-- **new String(chars) AT A CALL, THE ARRAYS AS LISTS**: the char[] at b holds cs, not empty, no char above 255 -/
theorem backArv {p : Program} {l : Launch} {e : Env} {R : Room} {s : State} {args : Array Value} {below : List Frame} {len W : Nat} {Z : State} {a0 : Array Value} {h : Heap} (hZ : Z.Warmed39 s.vm) (hw : ∀ d ∈ words, d.before a0 Z = true) {kI : Nat} (wi : (Jvm.Cond.instantiable ST kI).before a0 Z = true)
    {x b : Addr} {k : ClassId} {zn z : Int32} {cs : List Int32} {dv v0 c0 : Value} (E : RoadKit.Exa Z h x ST) (V : RoadKit.Fld Z h x ST "value" "[B" v0) (C : RoadKit.Fld Z h x ST "coder" "B" c0) (K : RoadKit.Arv Z h b k .char zn (cs.map Value.int) dv) (S : RoadKit.Sta Z h ST "COMPACT_STRINGS" "Z" (.int z)) (hz : ¬ z = 0)
    (hlen : zn.toNatClampNeg = cs.length) (h0 : 0 < cs.length) (hbig : cs.length ≤ 536870912) (hall : ∀ c ∈ cs, ¬ 255 < c) (hfr : 4 ≤ R.frames) (hlo : W + 65 ≤ R.locals) :
    Back l R p e below s args New1.yN len W (fun P a => a = #[.ref x, .ref b] ∧ P.U.heap = h ∧ P.cells + 1 ≤ R.cells ∧ P.slots + cs.length ≤ R.slots)
      (fun P _ v B => ∃ L, QA Z x zn cs h v B.U.heap L ∧ B.locs = P.locs ++ L ∧ B.cells = P.cells + 1 ∧ B.slots = P.slots + cs.length) := by
  obtain ⟨A, K1, K2, K3, K4, K5, K6⟩ := K
  have e : A.slots.size = cs.length := K3.trans hlen
  have hat : ∀ (i : Nat) (hi : i < cs.length), A.slots[i]? = some (.int cs[i]) := fun i hi => by rw [K5 i (by omega)]; simp [List.getD_eq_getElem?_getD, hi]
  have hcv : ∀ (i : Nat) (hi : i < cs.length), cv A i = cs[i] := fun i hi => by unfold cv; rw [hat i hi]
  have hty : Typed .char A := fun i v hv => by
    have hi : i < A.slots.size := (Array.getElem?_eq_some_iff.mp hv).1
    have q := K5 i hi
    rw [hv] at q
    rw [Option.some.inj q]
    exact K6 i hi
  refine Back.mono (back hZ hw wi E V C K1 hty S hz (by omega) (by omega) (fun i hi => by rw [hcv i (by omega)]; exact hall _ (List.getElem_mem _)) hfr hlo) (fun P a hp => ⟨hp.1, hp.2.1, hp.2.2.1, by rw [e]; exact hp.2.2.2⟩) (fun P a v B hp hq => ?_)
  obtain ⟨L, ⟨q1, q2, q3, q4, q5, q6, q7, ⟨V', v1, v2, v3, v4, v5⟩, q9⟩, hl, hc, hs⟩ := hq
  refine ⟨L, ⟨q1, q2, q3, q4, q5, q6, q7, ⟨V'.cls, v3, V', v1, rfl, by rw [v4, e, hlen], K4, fun i hi => ?_, fun i hi => ?_⟩, q9⟩, hl, hc, by rw [hs, e]⟩
  · have hi' : i < cs.length := by omega
    rw [v5 i (by omega), hcv i hi']; simp [List.getD_eq_getElem?_getD, hi']
  · have hi' : i < cs.length := by omega
    simp only [List.getD_eq_getElem?_getD, List.getElem?_map, List.getElem?_eq_getElem hi', Option.map_some, Option.getD_some]
    exact fits_lo8 _
end StrChars.Road
namespace StrChars.Road
open Jvm Sem ClassFile Op Lib Jvm.Stand Jvm.Free Jvm.Free.XT
/-- WHAT COMES BACK, in the writer's own shape -/
def QV (Z : State) (x : Addr) (N : Int32) (bs : List Int32) (h : Heap) (n0 : Nat) (v : Option Value) (h' : Heap) (L : List Loc) : Prop := v = none ∧ RoadKit.Fr n0 L ∧ RoadKit.Keep h h' [x] ∧ RoadKit.Exa Z h' x ST ∧ RoadKit.Fld Z h' x ST "coder" "B" (.int 0) ∧
  ∃ (t : Addr) (kb : ClassId), n0 ≤ t ∧ h.size ≤ t ∧ ¬ t = x ∧ RoadKit.Fld Z h' x ST "value" "[B" (.ref t) ∧ RoadKit.Arv Z h' t kb .byte N (bs.map Value.int) (.int 0)
/-- **new String(chars) AT A CALL, FOR THE WRITER**: a char[] of n known ints, each 0 to 255 -/
theorem backV {p : Program} {l : Launch} {e : Env} {R : Room} {s : State} {args : Array Value} {below : List Frame} {len W : Nat} {Z : State} {a0 : Array Value} {h : Heap} (hZ : Z.Warmed39 s.vm) (hw : ∀ d ∈ words, d.before a0 Z = true) {kI : Nat} (wi : (Jvm.Cond.instantiable ST kI).before a0 Z = true)
    {x b : Addr} {kC : ClassId} {cs bs : List Int32} {d v0 c0 : Value} {z N : Int32} {n n0 : Nat} (hx0 : n0 ≤ x) (hh0 : n0 ≤ h.size) (E : RoadKit.Exa Z h x ST) (V : RoadKit.Fld Z h x ST "value" "[B" v0) (C : RoadKit.Fld Z h x ST "coder" "B" c0) (K : RoadKit.Arv Z h b kC .char N (cs.map Value.int) d) (S : RoadKit.Sta Z h ST "COMPACT_STRINGS" "Z" (.int z)) (hz : ¬ z = 0)
    (hn : cs.length = n) (hN : N = Int32.ofNat n) (l0 : 0 < n) (l2 : n ≤ 4000) (hp : ∀ c ∈ cs, ¬ c < 0 ∧ ¬ (255 : Int32) < c) (hb : bs = cs.map (fun c => c.toInt8.toInt32)) (hfr : 4 ≤ R.frames) (hlo : W + 65 ≤ R.locals) :
    Back l R p e below s args (⟨"java/lang/String", "<init>", "([C)V"⟩ : MethodName) len W (fun P a => a = #[.ref x, .ref b] ∧ P.U.heap = h ∧ P.cells + 1 ≤ R.cells ∧ P.slots + n ≤ R.slots)
      (fun P _ v B => ∃ L, QV Z x N bs h n0 v B.U.heap L ∧ B.locs = P.locs ++ L ∧ B.cells = P.cells + 1 ∧ B.slots = P.slots + n) := by
  subst hn hN hb
  refine Back.mono (backArv hZ hw wi E V C K S hz (n32 (by omega)) l0 (by omega) (fun c hc => (hp c hc).2) hfr hlo) (fun P a hp => hp) (fun P a v B hp hq => ?_)
  obtain ⟨L, ⟨q1, q2, q3, q4, q5, q6, q7, ⟨kb, v1, v2⟩, q9⟩, hl, hc, hs⟩ := hq
  exact ⟨L, ⟨q1, fun y hy => by rw [q2 y hy]; exact hx0, q3, q5, q7, h.size, kb, hh0, Nat.le_refl _, Nat.ne_of_gt E.lt, q6, by rw [List.map_map]; exact v2⟩, hl, hc, hs⟩
end StrChars.Road
end Jvm.Pilot.@@N@@
namespace Jvm.Pilot.@@N@@
open Jvm Jvm.ClassFile Sem Op Lib Jvm.Free Jvm.Stand Jvm.LawKit Jvm.RoadKit Bundle Jvm.Pilot.@@N@@.Jvm.D
def own_R (s : State) (below : List Frame) (Q : Option Value → Heap → List Loc → Prop) (rc rs : Nat) (t : State) (o : Outcome) : Prop := t.status = .running ∧ Ended t below o ∧ ∃ v L, o = .returned v ∧ Q v t.heap L ∧ FrameEnd s o t L rc rs
def own_RW (s : State) (below : List Frame) (Q : Option Value → Heap → List Loc → Prop) (rc rs : Nat) (t : State) (o : Outcome) : Prop := t.status = .running ∧ Ended t below o ∧ ∃ v L, o = .returned v ∧ Q v t.heap L ∧ ReturnedEndW s o t L rc rs
def own_Go (p : Program) (e : Env) (below : List Frame) (Rr : State → Outcome → Prop) (S : State) : Prop := ∃ t o, Steps p.tables e below S t ∧ Rr t o
section OwnGo
variable {p : Program} {l : Launch} {e : Env} {R : Room} {s : State} {m : MethodId} {args : Array Value} {below : List Frame} {meth : Method} {c : Code} {T : State} {locs : List Loc} {cells slots : Nat} {Q : Option Value → Heap → List Loc → Prop} {rc rs : Nat} {S S' : State} {Rr : State → Outcome → Prop}
theorem own_bk (st : ∀ t, Steps p.tables e below S' t → Steps p.tables e below S t) (k : own_Go p e below Rr S') : own_Go p e below Rr S := by
  obtain ⟨t, o, h1, h2⟩ := k; exact ⟨t, o, st t h1, h2⟩
theorem own_seg (f : own_Go p e below Rr S' → own_Go p e below Rr S) (k : own_Go p e below Rr S') : own_Go p e below Rr S := f k
theorem own_tr (st : Steps p.tables e below S S') (k : own_Go p e below Rr S') : own_Go p e below Rr S := own_bk (fun t k => st.trans k) k
theorem own_retN (X : Stand p l e R s m args below meth c T locs cells slots) (hx : p.tables.exec = Jvm.exec) (hlk : meth.locks = false) {pc : Nat} {Ls : Array Slot} {z w : Int32} {t : FieldType} {rest : List Value} (hret : meth.sig.returnType = some t) (ht : t = .boolean ∨ t = .byte ∨ t = .char ∨ t = .short) (hd : decode c.code pc = .ok (.ireturn, 1)) (hz : nar t z = w)
    (hQ : Q (some (.int w)) T.heap locs) (hc : cells ≤ rc) (hs : slots ≤ rs) : own_Go p e below (own_R s below Q rc rs) (T.setTop (mkF m pc Ls (.int z :: rest))) := by
  subst hz
  obtain ⟨fs, hr, hrun, hended, hW, hsame⟩ := X.leave (v := some (.int (nar t z))) (fun h => by rw [hret] at h; cases h) hlk
  exact ⟨_, _, retN X hx hret ht hd hr, hrun, hended, _, _, rfl, hQ, ⟨_, rfl⟩, hW, hsame.mono hc hs⟩
theorem own_retNW {vm1 : Vm} {n1 : Nat} (hS : s.Since vm1 n1) (X : Stand p l e R (s.setVm vm1) m args below meth c T locs cells slots) (hn1 : n1 ≤ T.heap.size) (hx : p.tables.exec = Jvm.exec) (hlk : meth.locks = false) {pc : Nat} {Ls : Array Slot} {z w : Int32} {t : FieldType} {rest : List Value} (hret : meth.sig.returnType = some t) (ht : t = .boolean ∨ t = .byte ∨ t = .char ∨ t = .short) (hd : decode c.code pc = .ok (.ireturn, 1)) (hz : nar t z = w)
    (hQ : Q (some (.int w)) T.heap locs) (hc : cells ≤ rc) (hs : slots ≤ rs) : own_Go p e below (own_RW s below Q rc rs) (T.setTop (mkF m pc Ls (.int z :: rest))) := by
  subst hz
  obtain ⟨fs, hr, hrun, hended, hE⟩ := X.leaveW hS hn1 (v := some (.int (nar t z))) (fun h => by rw [hret] at h; cases h) hlk
  exact ⟨_, _, retN X hx hret ht hd hr, hrun, hended, _, _, rfl, hQ, hE.1, hE.2.1, hE.2.2.1, hE.2.2.2.mono hc hs⟩
theorem own_retI (X : Stand p l e R s m args below meth c T locs cells slots) (hx : p.tables.exec = Jvm.exec) (hlk : meth.locks = false) {pc : Nat} {Ls : Array Slot} {z : Int32} {rest : List Value} (hret : meth.sig.returnType = some .int) (hd : decode c.code pc = .ok (.ireturn, 1))
    (hQ : Q (some (.int z)) T.heap locs) (hc : cells ≤ rc) (hs : slots ≤ rs) : own_Go p e below (own_R s below Q rc rs) (T.setTop (mkF m pc Ls (.int z :: rest))) := by
  obtain ⟨fs, hr, hrun, hended, hW, hsame⟩ := X.leave (v := some (.int z)) (fun h => by rw [hret] at h; cases h) hlk
  exact ⟨_, _, retI X hx hret hd hr, hrun, hended, _, _, rfl, hQ, ⟨_, rfl⟩, hW, hsame.mono hc hs⟩
theorem own_retIW {vm1 : Vm} {n1 : Nat} (hS : s.Since vm1 n1) (X : Stand p l e R (s.setVm vm1) m args below meth c T locs cells slots) (hn1 : n1 ≤ T.heap.size) (hx : p.tables.exec = Jvm.exec) (hlk : meth.locks = false) {pc : Nat} {Ls : Array Slot} {z : Int32} {rest : List Value} (hret : meth.sig.returnType = some .int) (hd : decode c.code pc = .ok (.ireturn, 1))
    (hQ : Q (some (.int z)) T.heap locs) (hc : cells ≤ rc) (hs : slots ≤ rs) : own_Go p e below (own_RW s below Q rc rs) (T.setTop (mkF m pc Ls (.int z :: rest))) := by
  obtain ⟨fs, hr, hrun, hended, hE⟩ := X.leaveW hS hn1 (v := some (.int z)) (fun h => by rw [hret] at h; cases h) hlk
  exact ⟨_, _, retI X hx hret hd hr, hrun, hended, _, _, rfl, hQ, hE.1, hE.2.1, hE.2.2.1, hE.2.2.2.mono hc hs⟩
theorem own_retJ (X : Stand p l e R s m args below meth c T locs cells slots) (hx : p.tables.exec = Jvm.exec) (hlk : meth.locks = false) {pc : Nat} {Ls : Array Slot} {z : Int64} {rest : List Value} (hret : meth.sig.returnType = some .long) (hd : decode c.code pc = .ok (.lreturn, 1))
    (hQ : Q (some (.long z)) T.heap locs) (hc : cells ≤ rc) (hs : slots ≤ rs) : own_Go p e below (own_R s below Q rc rs) (T.setTop (mkF m pc Ls (.long z :: rest))) := by
  obtain ⟨fs, hr, hrun, hended, hW, hsame⟩ := X.leave (v := some (.long z)) (fun h => by rw [hret] at h; cases h) hlk
  exact ⟨_, _, retOut X hx hret rfl (Or.inr (Or.inl ⟨rfl, rfl, z, rfl⟩)) hd hr, hrun, hended, _, _, rfl, hQ, ⟨_, rfl⟩, hW, hsame.mono hc hs⟩
theorem own_retJW {vm1 : Vm} {n1 : Nat} (hS : s.Since vm1 n1) (X : Stand p l e R (s.setVm vm1) m args below meth c T locs cells slots) (hn1 : n1 ≤ T.heap.size) (hx : p.tables.exec = Jvm.exec) (hlk : meth.locks = false) {pc : Nat} {Ls : Array Slot} {z : Int64} {rest : List Value} (hret : meth.sig.returnType = some .long) (hd : decode c.code pc = .ok (.lreturn, 1))
    (hQ : Q (some (.long z)) T.heap locs) (hc : cells ≤ rc) (hs : slots ≤ rs) : own_Go p e below (own_RW s below Q rc rs) (T.setTop (mkF m pc Ls (.long z :: rest))) := by
  obtain ⟨fs, hr, hrun, hended, hE⟩ := X.leaveW hS hn1 (v := some (.long z)) (fun h => by rw [hret] at h; cases h) hlk
  exact ⟨_, _, retOut X hx hret rfl (Or.inr (Or.inl ⟨rfl, rfl, z, rfl⟩)) hd hr, hrun, hended, _, _, rfl, hQ, hE.1, hE.2.1, hE.2.2.1, hE.2.2.2.mono hc hs⟩
theorem own_retA (X : Stand p l e R s m args below meth c T locs cells slots) (hx : p.tables.exec = Jvm.exec) (hlk : meth.locks = false) {pc : Nat} {Ls : Array Slot} {w : Value} {t : FieldType} {rest : List Value} (hret : meth.sig.returnType = some t) (ht : t.isReference = true) (hw : w.isRef = true) (hn : narrow t w = w) (hd : decode c.code pc = .ok (.areturn, 1))
    (hQ : Q (some w) T.heap locs) (hc : cells ≤ rc) (hs : slots ≤ rs) : own_Go p e below (own_R s below Q rc rs) (T.setTop (mkF m pc Ls (w :: rest))) := by
  obtain ⟨fs, hr, hrun, hended, hW, hsame⟩ := X.leave (v := some w) (fun h => by rw [hret] at h; cases h) hlk
  exact ⟨_, _, retOut X hx hret hn (Or.inr (Or.inr (Or.inr (Or.inr ⟨rfl, ht, hw⟩)))) hd hr, hrun, hended, _, _, rfl, hQ, ⟨_, rfl⟩, hW, hsame.mono hc hs⟩
theorem own_retAW {vm1 : Vm} {n1 : Nat} (hS : s.Since vm1 n1) (X : Stand p l e R (s.setVm vm1) m args below meth c T locs cells slots) (hn1 : n1 ≤ T.heap.size) (hx : p.tables.exec = Jvm.exec) (hlk : meth.locks = false) {pc : Nat} {Ls : Array Slot} {w : Value} {t : FieldType} {rest : List Value} (hret : meth.sig.returnType = some t) (ht : t.isReference = true) (hw : w.isRef = true) (hn : narrow t w = w) (hd : decode c.code pc = .ok (.areturn, 1))
    (hQ : Q (some w) T.heap locs) (hc : cells ≤ rc) (hs : slots ≤ rs) : own_Go p e below (own_RW s below Q rc rs) (T.setTop (mkF m pc Ls (w :: rest))) := by
  obtain ⟨fs, hr, hrun, hended, hE⟩ := X.leaveW hS hn1 (v := some w) (fun h => by rw [hret] at h; cases h) hlk
  exact ⟨_, _, retOut X hx hret hn (Or.inr (Or.inr (Or.inr (Or.inr ⟨rfl, ht, hw⟩)))) hd hr, hrun, hended, _, _, rfl, hQ, hE.1, hE.2.1, hE.2.2.1, hE.2.2.2.mono hc hs⟩
theorem own_retV (X : Stand p l e R s m args below meth c T locs cells slots) (hx : p.tables.exec = Jvm.exec) (hlk : meth.locks = false) {pc : Nat} {Ls : Array Slot} (hret : meth.sig.returnType = none) (hd : decode c.code pc = .ok (.return_, 1))
    (hQ : Q none T.heap locs) (hc : cells ≤ rc) (hs : slots ≤ rs) : own_Go p e below (own_R s below Q rc rs) (T.setTop (mkF m pc Ls [])) := by
  obtain ⟨fs, hr, hrun, hended, hW, hsame⟩ := X.leave (v := none) (fun _ => rfl) hlk
  exact ⟨_, _, X.returnOut hx hret hd hr, hrun, hended, _, _, rfl, hQ, ⟨_, rfl⟩, hW, hsame.mono hc hs⟩
theorem own_retVW {vm1 : Vm} {n1 : Nat} (hS : s.Since vm1 n1) (X : Stand p l e R (s.setVm vm1) m args below meth c T locs cells slots) (hn1 : n1 ≤ T.heap.size) (hx : p.tables.exec = Jvm.exec) (hlk : meth.locks = false) {pc : Nat} {Ls : Array Slot} (hret : meth.sig.returnType = none) (hd : decode c.code pc = .ok (.return_, 1))
    (hQ : Q none T.heap locs) (hc : cells ≤ rc) (hs : slots ≤ rs) : own_Go p e below (own_RW s below Q rc rs) (T.setTop (mkF m pc Ls [])) := by
  obtain ⟨fs, hr, hrun, hended, hE⟩ := X.leaveW hS hn1 (v := none) (fun _ => rfl) hlk
  exact ⟨_, _, X.returnOut hx hret hd hr, hrun, hended, _, _, rfl, hQ, hE.1, hE.2.1, hE.2.2.1, hE.2.2.2.mono hc hs⟩
end OwnGo
/-- an enum constant of the start: what its static holds, its class, its ordinal -/
def own_E (Z : State) (h : Heap) (r : Addr) (C n d : String) (k : Int32) : Prop := Sta Z h C n d (.ref r) ∧ Exa Z h r C ∧ Fld Z h r "java/lang/Enum" "ordinal" "I" (.int k)
theorem own_E.ext {Z : State} {h h' : Heap} {r : Addr} {C n d : String} {k : Int32} (G : own_E Z h r C n d k) (E : Ext h h') : own_E Z h' r C n d k := ⟨G.1.ext E, G.2.1.ext E, G.2.2.ext E⟩
theorem own_E.ne {Z : State} {h : Heap} {r r' : Addr} {C n d C' n' d' : String} {k k' : Int32} (G : own_E Z h r C n d k) (G' : own_E Z h r' C' n' d' k') (q : k ≠ k') : r ≠ r' := Fld.ne G.2.2 G'.2.2 (fun e => q (Value.int.inj e))
theorem own_fldInt {args : Array Value} {s : State} {t : Term} {C n d : String} {k : Int32} {a : Addr} (h : (Jvm.Cond.eq (.field t C n d) (.int k)).value args s none s [] = some true) (ev : t.eval args s none [] s = some (.ref a)) : s.fieldOf? a C n d = some (.int k) := by
  obtain ⟨x, y, h1, h2, h3, h4⟩ := cmp_v (Or.inl h)
  have h5 : (Term.int k).eval args s none [] s = some (.int k) := Term.int_eval k
  cases h5.symm.trans h2
  obtain ⟨z, rfl⟩ := h4
  have h6 : z = k := gotT (Cond.eq_ints h1 h5) h
  subst h6
  rw [← fld_at ev]; exact h1
theorem own_eq1 {x y : Int32} (h : x = y) : if_icmp.holds .eq x y = true := (teq h).1
theorem own_c255 (x : Int32) : ¬ (x &&& (255 : Int32)).toUInt32.toUInt16.toUInt32.toInt32 < 0 ∧ ¬ (255 : Int32) < (x &&& (255 : Int32)).toUInt32.toUInt16.toUInt32.toInt32 := by
  rw [i2c_mask]
  have h := c_mask x 255 8 (by decide) (by decide)
  have e0 : (0 : Int32).toInt = 0 := by decide
  have e1 : (255 : Int32).toInt = 255 := by decide
  simp only [Int32.lt_iff_toInt_lt, e0, e1, h]
  have := Int.emod_nonneg x.toInt (show ((2 ^ 8 : Nat) : Int) ≠ 0 by decide)
  have := Int.emod_lt_of_pos x.toInt (show (0 : Int) < ((2 ^ 8 : Nat) : Int) by decide)
  constructor <;> omega
theorem own_nar (x : Int32) : nar .char (x.toUInt32.toUInt16.toUInt32.toInt32) = x.toUInt32.toUInt16.toUInt32.toInt32 := by simp only [nar, UInt32.toUInt32_toInt32, UInt16.toUInt16_toUInt32]
theorem own_n255 (x : Int32) : ¬ nar .char ((x &&& (255 : Int32)).toUInt32.toUInt16.toUInt32.toInt32) < 0 ∧ ¬ (255 : Int32) < nar .char ((x &&& (255 : Int32)).toUInt32.toUInt16.toUInt32.toInt32) := by rw [own_nar]; exact own_c255 x

theorem own_and3 (x : Int32) : x &&& 3 = 0 ∨ x &&& 3 = 1 ∨ x &&& 3 = 2 ∨ x &&& 3 = 3 := by
  have h := c_mask x 3 2 (by decide) (by decide)
  have h1 := Int.emod_nonneg x.toInt (show ((2 ^ 2 : Nat) : Int) ≠ 0 by decide)
  have h2 := Int.emod_lt_of_pos x.toInt (show (0 : Int) < ((2 ^ 2 : Nat) : Int) by decide)
  have e0 : (0 : Int32).toInt = 0 := by decide
  have e1 : (1 : Int32).toInt = 1 := by decide
  have e2 : (2 : Int32).toInt = 2 := by decide
  have e3 : (3 : Int32).toInt = 3 := by decide
  simp only [← Int32.toInt_inj, e0, e1, e2, e3, h]
  have e4 : ((2 ^ 2 : Nat) : Int) = 4 := by decide
  rw [e4] at *
  omega
theorem own_ver {a0 a1 a2 a3 x y : Addr} {i j : Int32} (h01 : a0 ≠ a1) (h02 : a0 ≠ a2) (h03 : a0 ≠ a3) (h12 : a1 ≠ a2) (h13 : a1 ≠ a3) (h23 : a2 ≠ a3) (hi : i = 0 ∨ i = 1 ∨ i = 2 ∨ i = 3) (hj : j = 0 ∨ j = 1 ∨ j = 2 ∨ j = 3)
    (hx : (if i = 0 then a0 else if i = 1 then a1 else if i = 2 then a2 else a3) = x) (hy : (if j = 0 then a0 else if j = 1 then a1 else if j = 2 then a2 else a3) = y) (hij : ¬ i = j) : x ≠ y := by
  subst hx hy
  rcases hi with rfl | rfl | rfl | rfl <;> rcases hj with rfl | rfl | rfl | rfl <;> first | exact absurd rfl hij | (simp +decide [h01, h02, h03, h12, h13, h23, Ne.symm h01, Ne.symm h02, Ne.symm h03, Ne.symm h12, Ne.symm h13, Ne.symm h23])
theorem d13_0 : decode jdk_30_method_1_code 0 = .ok (.aload_n 0, 1) := by decide +kernel
theorem d13_1 : decode jdk_30_method_1_code 1 = .ok (.invokespecial 1, 3) := by decide +kernel
theorem d13_4 : decode jdk_30_method_1_code 4 = .ok (.return_, 1) := by decide +kernel
theorem ef_rmRec (m : MethodId) (x0 : Addr) : entryFrame m #[(.ref x0)] 1 = mkF m 0 #[.val (.ref x0)] [] := by first | (simp [entryFrame, mkF, argsToLocals, Value.category, maxLocals]; done) | rfl
def Q_rmRec (Z : State) (a : Addr) (h0 : Heap) (n0 : Nat) (v : Option Value) (h : Heap) (L : List Loc) : Prop := v = none ∧ Fr n0 L ∧ h = h0
set_option maxRecDepth 65536 in
set_option maxHeartbeats 40000000 in
theorem rmRec (l : Launch) (Z : State) (a0 : Array Value) (hw : ∀ d ∈ tables_1, d.before a0 Z = true) (ws : List Jvm.Cond) (a : Addr) (h0 : Heap) (n0 : Nat) (Z0 : n0 ≤ h0.size)  :
    MetFree l (⟨"java/lang/Record", "<init>", "()V"⟩ : MethodName) (head1 (Jvm.Cond.code (⟨"java/lang/Record", "<init>", "()V"⟩ : MethodName) jdk_30_method_1_code 1 none :: ws) ({ frames := 1, cells := 0, slots := 0, locals := 12 } : Room)) (fun as_ U_ => as_ = #[(.ref a)] ∧ Z.Warmed39 U_.vm ∧ U_.heap = h0) (fun _ _ _ _ _ => True) (fun _ U_ o_ U2_ => ∃ v_ L_, o_ = .returned v_ ∧ (Q_rmRec Z a h0 n0) v_ U2_.heap L_ ∧ FrameEnd U_ o_ U2_ L_ ({ frames := 1, cells := 0, slots := 0, locals := 12 } : Room).cells ({ frames := 1, cells := 0, slots := 0, locals := 12 } : Room).slots) := by
  refine MetFree.of_bodySF (plainFor_of_name (by first | (simp [plainName, overriddenIn]; done) | decide +kernel : plainName "java/lang/Record" = true)) hisR ?_
  intro p e s m args below meth c s₁ Bd hml0 hP hK
  obtain ⟨rfl, hZ, hh⟩ := hP
  have hx := Bd.exec
  have hby := Bd.bytes
  have hlk := Bd.notSynchronized
  have hml : c.maxLocals = 1 := hml0
  have hown : s.vm.findClass "java/lang/Record" = some m.cls := findClass_of_methodNamed Bd.named
  have hnm := (name_of_methodNamed Bd.named Bd.method).1
  have X0 : Stand p l e ({ frames := 1, cells := 0, slots := 0, locals := 12 } : Room) s m #[(.ref a)] below meth c s₁ [] 0 0 := Stand.of_body Bd
  have e0 : s₁.heap = h0 := by rw [← hh, Bd.state]; rfl
  have N0 := Fr.nil n0
  show own_Go p e below (own_R s below (Q_rmRec Z a h0 n0) ({ frames := 1, cells := 0, slots := 0, locals := 12 } : Room).cells ({ frames := 1, cells := 0, slots := 0, locals := 12 } : Room).slots) (s₁.setTop (entryFrame m #[(.ref a)] 1))
  refine own_bk (S' := (s₁.setTop (mkF m 0 #[rv a] []))) (fun t_ kont => castTop (ef_rmRec m (a)) kont) ?_
  refine own_bk (S' := (s₁.setTop (mkF m 1 #[rv a] [(.ref a)]))) (fun t_ kont => XS.aloadN X0.here hx rfl (hb hby d13_0) rfl rfl kont) ?_
  obtain ⟨T1, X2, e3, st4⟩ := initO X0 hx hZ hown (hw _ (List.mem_of_getElem? (i := 64) rfl)) (hw _ (List.mem_of_getElem? (i := 20) rfl)) (hw _ (List.mem_of_getElem? (i := 21) rfl)) e0 (g := (mkF m 1 #[rv a] [(.ref a)])) rfl (by rw [hml]; rfl) rfl (hb hby d13_1) (by decide) (W := 0) (by show 2 * 0 + _ ≤ _; exact Nat.le_of_eq rfl) (by decide)
  refine own_bk (S' := (T1.setTop (mkF m 4 #[rv a] []))) st4 ?_
  exact own_retV X2 hx hlk Bd.returns (hb hby d13_4) ⟨rfl, N0, e3⟩ (by decide) (by decide)
theorem d2_0 : decode jdk_43_method_3_code 0 = .ok (.iload_n 0, 1) := by decide +kernel
theorem d2_1 : decode jdk_43_method_3_code 1 = .ok (.sipush 255, 3) := by decide +kernel
theorem d2_4 : decode jdk_43_method_3_code 4 = .ok (.if_icmp .gt 7, 3) := by decide +kernel
theorem d2_7 : decode jdk_43_method_3_code 7 = .ok (.iconst 1, 1) := by decide +kernel
theorem d2_8 : decode jdk_43_method_3_code 8 = .ok (.goto 4, 3) := by decide +kernel
theorem d2_11 : decode jdk_43_method_3_code 11 = .ok (.iconst 0, 1) := by decide +kernel
theorem d2_12 : decode jdk_43_method_3_code 12 = .ok (.ireturn, 1) := by decide +kernel
theorem ef_rmCan (m : MethodId) (x0 : Int32) : entryFrame m #[(.int x0)] 1 = mkF m 0 #[.val (.int x0)] [] := by first | (simp [entryFrame, mkF, argsToLocals, Value.category, maxLocals]; done) | rfl
def Q_rmCan (Z : State) (q : Int32) (h0 : Heap) (n0 : Nat) (v : Option Value) (h : Heap) (L : List Loc) : Prop := v = some (.int 1) ∧ Fr n0 L ∧ h = h0
set_option maxRecDepth 65536 in
set_option maxHeartbeats 40000000 in
theorem rmCan (l : Launch) (Z : State) (a0 : Array Value) (hw : ∀ d ∈ tables_1, d.before a0 Z = true) (ws : List Jvm.Cond) (q : Int32) (h0 : Heap) (n0 : Nat) (Z0 : n0 ≤ h0.size) (hq : ¬ (255 : Int32) < q) :
    MetFree l (⟨"java/lang/StringLatin1", "canEncode", "(C)Z"⟩ : MethodName) (head1 (Jvm.Cond.code (⟨"java/lang/StringLatin1", "canEncode", "(C)Z"⟩ : MethodName) jdk_43_method_3_code 1 (some .boolean) :: ws) ({ frames := 0, cells := 0, slots := 0, locals := 0 } : Room)) (fun as_ U_ => as_ = #[(.int q)] ∧ Z.Warmed39 U_.vm ∧ U_.heap = h0) (fun _ _ _ _ _ => True) (fun _ U_ o_ U2_ => ∃ v_ L_, o_ = .returned v_ ∧ (Q_rmCan Z q h0 n0) v_ U2_.heap L_ ∧ FrameEnd U_ o_ U2_ L_ ({ frames := 0, cells := 0, slots := 0, locals := 0 } : Room).cells ({ frames := 0, cells := 0, slots := 0, locals := 0 } : Room).slots) := by
  refine MetFree.of_bodySF (plainFor_of_name (by first | (simp [plainName, overriddenIn]; done) | decide +kernel : plainName "java/lang/StringLatin1" = true)) hisR ?_
  intro p e s m args below meth c s₁ Bd hml0 hP hK
  obtain ⟨rfl, hZ, hh⟩ := hP
  have hx := Bd.exec
  have hby := Bd.bytes
  have hlk := Bd.notSynchronized
  have hml : c.maxLocals = 1 := hml0
  have hown : s.vm.findClass "java/lang/StringLatin1" = some m.cls := findClass_of_methodNamed Bd.named
  have hnm := (name_of_methodNamed Bd.named Bd.method).1
  have X0 : Stand p l e ({ frames := 0, cells := 0, slots := 0, locals := 0 } : Room) s m #[(.int q)] below meth c s₁ [] 0 0 := Stand.of_body Bd
  have e0 : s₁.heap = h0 := by rw [← hh, Bd.state]; rfl
  have N0 := Fr.nil n0
  show own_Go p e below (own_R s below (Q_rmCan Z q h0 n0) ({ frames := 0, cells := 0, slots := 0, locals := 0 } : Room).cells ({ frames := 0, cells := 0, slots := 0, locals := 0 } : Room).slots) (s₁.setTop (entryFrame m #[(.int q)] 1))
  refine own_bk (S' := (s₁.setTop (mkF m 0 #[iv q] []))) (fun t_ kont => castTop (ef_rmCan m (q)) kont) ?_
  refine own_bk (S' := (s₁.setTop (mkF m 1 #[iv q] [(.int q)]))) (fun t_ kont => XS.iloadN X0.here hx rfl (hb hby d2_0) rfl kont) ?_
  refine own_bk (S' := (s₁.setTop (mkF m 4 #[iv q] [(.int (255 : Int32)), (.int q)]))) (fun t_ kont => XS.sipush X0.here hx rfl (hb hby d2_1) kont) ?_
  refine own_bk (S' := (s₁.setTop (mkF m 7 #[iv q] []))) (fun t_ kont => XS.icmpNo X0.here hx rfl (hb hby d2_4) rfl (flt (hq)).2.2.1 kont) ?_
  refine own_bk (S' := (s₁.setTop (mkF m 8 #[iv q] [(.int (1 : Int32))]))) (fun t_ kont => XS.iconst X0.here hx rfl (hb hby d2_7) kont) ?_
  refine own_bk (S' := (s₁.setTop (mkF m 12 #[iv q] [(.int (1 : Int32))]))) (fun t_ kont => XS.goto X0.here hx rfl (pc0 := 8) (pc' := 12) rfl (hb hby d2_8) (by decide) (by decide) kont) ?_
  exact own_retN X0 hx hlk (t := .boolean) (w := (1 : Int32)) Bd.returns (by simp) (hb hby d2_12) rfl ⟨rfl, N0, e0⟩ (by decide) (by decide)
theorem d3_0 : decode jdk_43_method_46_code 0 = .ok (.iconst 1, 1) := by decide +kernel
theorem d3_1 : decode jdk_43_method_46_code 1 = .ok (.newarray .byte, 2) := by decide +kernel
theorem d3_3 : decode jdk_43_method_46_code 3 = .ok (.dup, 1) := by decide +kernel
theorem d3_4 : decode jdk_43_method_46_code 4 = .ok (.iconst 0, 1) := by decide +kernel
theorem d3_5 : decode jdk_43_method_46_code 5 = .ok (.iload_n 0, 1) := by decide +kernel
theorem d3_6 : decode jdk_43_method_46_code 6 = .ok (.i2b, 1) := by decide +kernel
theorem d3_7 : decode jdk_43_method_46_code 7 = .ok (.bastore, 1) := by decide +kernel
theorem d3_8 : decode jdk_43_method_46_code 8 = .ok (.areturn, 1) := by decide +kernel
theorem ef_rmToB (m : MethodId) (x0 : Int32) : entryFrame m #[(.int x0)] 1 = mkF m 0 #[.val (.int x0)] [] := by first | (simp [entryFrame, mkF, argsToLocals, Value.category, maxLocals]; done) | rfl
def Q_rmToB (Z : State) (q : Int32) (h0 : Heap) (n0 : Nat) (v : Option Value) (h : Heap) (L : List Loc) : Prop := Fr n0 L ∧ Old Z n0 h ∧ Keep h0 h [] ∧ ∃ a, v = some (.ref a) ∧ n0 ≤ a
set_option maxRecDepth 65536 in
set_option maxHeartbeats 40000000 in
theorem rmToB (l : Launch) (Z : State) (a0 : Array Value) (hw : ∀ d ∈ tables_1, d.before a0 Z = true) (ws : List Jvm.Cond) (q : Int32) (h0 : Heap) (n0 : Nat) (Z0 : n0 ≤ h0.size) (O : Old Z n0 h0) :
    MetFree l (⟨"java/lang/StringLatin1", "toBytes", "(C)[B"⟩ : MethodName) (head1 (Jvm.Cond.code (⟨"java/lang/StringLatin1", "toBytes", "(C)[B"⟩ : MethodName) jdk_43_method_46_code 1 (some (.array .byte)) :: ws) ({ frames := 0, cells := 1, slots := 1, locals := 0 } : Room)) (fun as_ U_ => as_ = #[(.int q)] ∧ Z.Warmed39 U_.vm ∧ U_.heap = h0) (fun _ _ _ _ _ => True) (fun _ U_ o_ U2_ => ∃ v_ L_, o_ = .returned v_ ∧ (Q_rmToB Z q h0 n0) v_ U2_.heap L_ ∧ FrameEnd U_ o_ U2_ L_ ({ frames := 0, cells := 1, slots := 1, locals := 0 } : Room).cells ({ frames := 0, cells := 1, slots := 1, locals := 0 } : Room).slots) := by
  refine MetFree.of_bodySF (plainFor_of_name (by first | (simp [plainName, overriddenIn]; done) | decide +kernel : plainName "java/lang/StringLatin1" = true)) hisR ?_
  intro p e s m args below meth c s₁ Bd hml0 hP hK
  obtain ⟨rfl, hZ, hh⟩ := hP
  have hx := Bd.exec
  have hby := Bd.bytes
  have hlk := Bd.notSynchronized
  have hml : c.maxLocals = 1 := hml0
  have hown : s.vm.findClass "java/lang/StringLatin1" = some m.cls := findClass_of_methodNamed Bd.named
  have hnm := (name_of_methodNamed Bd.named Bd.method).1
  have X0 : Stand p l e ({ frames := 0, cells := 1, slots := 1, locals := 0 } : Room) s m #[(.int q)] below meth c s₁ [] 0 0 := Stand.of_body Bd
  have e0 : s₁.heap = h0 := by rw [← hh, Bd.state]; rfl
  have N0 := Fr.nil n0
  show own_Go p e below (own_R s below (Q_rmToB Z q h0 n0) ({ frames := 0, cells := 1, slots := 1, locals := 0 } : Room).cells ({ frames := 0, cells := 1, slots := 1, locals := 0 } : Room).slots) (s₁.setTop (entryFrame m #[(.int q)] 1))
  refine own_bk (S' := (s₁.setTop (mkF m 0 #[iv q] []))) (fun t_ kont => castTop (ef_rmToB m (q)) kont) ?_
  refine own_bk (S' := (s₁.setTop (mkF m 1 #[iv q] [(.int (1 : Int32))]))) (fun t_ kont => XS.iconst X0.here hx rfl (hb hby d3_0) kont) ?_
  obtain ⟨T1, h2, k3, X4, e5, E6, A7, st8⟩ := newP X0 hx hZ (hw _ (List.mem_of_getElem? (i := 14) rfl)) e0 (g := (mkF m 1 #[iv q] [(.int (1 : Int32))])) rfl (hb hby d3_1) rfl (by decide : ¬ ((1 : Int32) < (0 : Int32))) (cap := 1) (by decide : (1 : Int32).toNatClampNeg ≤ 1) (by decide) (by decide) (by decide)
  obtain ⟨a9, g10⟩ : ∃ z, z = h0.size := ⟨_, rfl⟩
  rw [← g10] at A7 st8
  have ag12 : n0 ≤ a9 := Nat.le_trans Z0 (Nat.le_of_eq g10.symm)
  have kg13 : h0.size ≤ a9 := Nat.le_trans (Keep.refl h0 []).1 (Nat.le_of_eq g10.symm)
  have Z14 := Nat.le_trans Z0 E6.1
  have O15 := O.ext E6
  have K16 := (Keep.refl h0 []).ext E6
  have V11 : Arv Z h2 a9 k3 .byte (1 : Int32) [] (.int (0 : Int32)) := (Arv.new A7 (by decide : ¬ ((1 : Int32) < (0 : Int32))))
  have V17 : Arv Z h2 a9 k3 .byte (1 : Int32) [(.int (0 : Int32))] (.int (0 : Int32)) := (V11.pad (pad_rep [] (.int (0 : Int32)) 1))
  refine own_bk (S' := (T1.setTop (mkF m 3 #[iv q] [(.ref a9)]))) st8 ?_
  refine own_bk (S' := (T1.setTop (mkF m 4 #[iv q] [(.ref a9), (.ref a9)]))) (fun t_ kont => XS.dup X4.here hx rfl (hb hby d3_3) rfl rfl kont) ?_
  refine own_bk (S' := (T1.setTop (mkF m 5 #[iv q] [(.int (0 : Int32)), (.ref a9), (.ref a9)]))) (fun t_ kont => XS.iconst X4.here hx rfl (hb hby d3_4) kont) ?_
  refine own_bk (S' := (T1.setTop (mkF m 6 #[iv q] [(.int q), (.int (0 : Int32)), (.ref a9), (.ref a9)]))) (fun t_ kont => XS.iloadN X4.here hx rfl (hb hby d3_5) rfl kont) ?_
  refine own_bk (S' := (T1.setTop (mkF m 7 #[iv q] [(.int (q.toInt8.toInt32)), (.int (0 : Int32)), (.ref a9), (.ref a9)]))) (fun t_ kont => XS.i2b X4.here hx rfl (hb hby d3_6) rfl kont) ?_
  obtain ⟨c18, A19, q20, S21, M22, H23, U24⟩ := id V17
  obtain ⟨T25, h26, X27, e28, W29, st30⟩ := stB X4 hx hZ e5 A19 (j := (0 : Int32)) (inb_of S21 ⟨(by decide : ¬ ((0 : Int32) < (0 : Int32))), (by decide : (0 : Int32) < (1 : Int32))⟩) (g := (mkF m 7 #[iv q] [(.int (q.toInt8.toInt32)), (.int (0 : Int32)), (.ref a9), (.ref a9)])) rfl rfl (hb hby d3_7)
  have N31 := Fr.snoc X27 N0 ag12
  have Z32 := Nat.le_trans Z14 (Keep.of_wr W29).1
  have O33 := O15.wr W29 ag12
  have K34 := K16.wr W29 (Or.inr kg13)
  have V35 : Arv Z h26 a9 k3 .byte (1 : Int32) [(.int (nar .byte (q.toInt8.toInt32)))] (.int (0 : Int32)) := (Arv.set A19 q20 S21 M22 H23 U24 (fits_nar_byte _) W29 0 rfl (Nat.le_of_ble_eq_true rfl))
  refine own_bk (S' := (T25.setTop (mkF m 8 #[iv q] [(.ref a9)]))) st30 ?_
  exact own_retA X27 hx hlk Bd.returns rfl rfl rfl (hb hby d3_8) (by rw [e28]; exact ⟨N31, O33, K34, _, rfl, ag12⟩) (by decide) (by decide)
theorem d4_0 : decode jdk_42_method_151_code 0 = .ok (.aload_n 0, 1) := by decide +kernel
theorem d4_1 : decode jdk_42_method_151_code 1 = .ok (.invokespecial 1, 3) := by decide +kernel
theorem d4_4 : decode jdk_42_method_151_code 4 = .ok (.aload_n 0, 1) := by decide +kernel
theorem d4_5 : decode jdk_42_method_151_code 5 = .ok (.aload_n 1, 1) := by decide +kernel
theorem d4_6 : decode jdk_42_method_151_code 6 = .ok (.putfield 9, 3) := by decide +kernel
theorem d4_9 : decode jdk_42_method_151_code 9 = .ok (.aload_n 0, 1) := by decide +kernel
theorem d4_10 : decode jdk_42_method_151_code 10 = .ok (.iload_n 2, 1) := by decide +kernel
theorem d4_11 : decode jdk_42_method_151_code 11 = .ok (.putfield 15, 3) := by decide +kernel
theorem d4_14 : decode jdk_42_method_151_code 14 = .ok (.return_, 1) := by decide +kernel
theorem ef_rmBB (m : MethodId) (x0 : Addr) (x1 : Addr) (x2 : Int32) : entryFrame m #[(.ref x0), (.ref x1), (.int x2)] 3 = mkF m 0 #[.val (.ref x0), .val (.ref x1), .val (.int x2)] [] := by first | (simp [entryFrame, mkF, argsToLocals, Value.category, maxLocals]; done) | rfl
def Q_rmBB (Z : State) (a t : Addr) (h0 : Heap) (n0 : Nat) (v : Option Value) (h : Heap) (L : List Loc) : Prop := v = none ∧ Fr n0 L ∧ Keep h0 h [a]
set_option maxRecDepth 65536 in
set_option maxHeartbeats 40000000 in
theorem rmBB (l : Launch) (Z : State) (a0 : Array Value) (hw : ∀ d ∈ tables_1, d.before a0 Z = true) (ws : List Jvm.Cond) (a t : Addr) (h0 : Heap) (n0 : Nat) (Z0 : n0 ≤ h0.size) (E : Exa Z h0 a "java/lang/String") (ag : n0 ≤ a) (F0 : Fld Z h0 a "java/lang/String" "value" "[B" .null) (F1 : Fld Z h0 a "java/lang/String" "coder" "B" (.int 0)) :
    MetFree l (⟨"java/lang/String", "<init>", "([BB)V"⟩ : MethodName) (head1 (Jvm.Cond.code (⟨"java/lang/String", "<init>", "([BB)V"⟩ : MethodName) jdk_42_method_151_code 3 none :: ws) ({ frames := 1, cells := 0, slots := 0, locals := 12 } : Room)) (fun as_ U_ => as_ = #[(.ref a), (.ref t), (.int (0 : Int32))] ∧ Z.Warmed39 U_.vm ∧ U_.heap = h0) (fun _ _ _ _ _ => True) (fun _ U_ o_ U2_ => ∃ v_ L_, o_ = .returned v_ ∧ (Q_rmBB Z a t h0 n0) v_ U2_.heap L_ ∧ FrameEnd U_ o_ U2_ L_ ({ frames := 1, cells := 0, slots := 0, locals := 12 } : Room).cells ({ frames := 1, cells := 0, slots := 0, locals := 12 } : Room).slots) := by
  refine MetFree.of_bodySF (plainFor_of_name (by first | (simp [plainName, overriddenIn]; done) | decide +kernel : plainName "java/lang/String" = true)) hisR ?_
  intro p e s m args below meth c s₁ Bd hml0 hP hK
  obtain ⟨rfl, hZ, hh⟩ := hP
  have hx := Bd.exec
  have hby := Bd.bytes
  have hlk := Bd.notSynchronized
  have hml : c.maxLocals = 3 := hml0
  have hown : s.vm.findClass "java/lang/String" = some m.cls := findClass_of_methodNamed Bd.named
  have hnm := (name_of_methodNamed Bd.named Bd.method).1
  have X0 : Stand p l e ({ frames := 1, cells := 0, slots := 0, locals := 12 } : Room) s m #[(.ref a), (.ref t), (.int (0 : Int32))] below meth c s₁ [] 0 0 := Stand.of_body Bd
  have e0 : s₁.heap = h0 := by rw [← hh, Bd.state]; rfl
  have N0 := Fr.nil n0
  show own_Go p e below (own_R s below (Q_rmBB Z a t h0 n0) ({ frames := 1, cells := 0, slots := 0, locals := 12 } : Room).cells ({ frames := 1, cells := 0, slots := 0, locals := 12 } : Room).slots) (s₁.setTop (entryFrame m #[(.ref a), (.ref t), (.int (0 : Int32))] 3))
  refine own_bk (S' := (s₁.setTop (mkF m 0 #[rv a, rv t, iv (0 : Int32)] []))) (fun t_ kont => castTop (ef_rmBB m (a) (t) ((0 : Int32))) kont) ?_
  refine own_bk (S' := (s₁.setTop (mkF m 1 #[rv a, rv t, iv (0 : Int32)] [(.ref a)]))) (fun t_ kont => XS.aloadN X0.here hx rfl (hb hby d4_0) rfl rfl kont) ?_
  obtain ⟨T1, X2, e3, st4⟩ := initO X0 hx hZ hown (hw _ (List.mem_of_getElem? (i := 19) rfl)) (hw _ (List.mem_of_getElem? (i := 20) rfl)) (hw _ (List.mem_of_getElem? (i := 21) rfl)) e0 (g := (mkF m 1 #[rv a, rv t, iv (0 : Int32)] [(.ref a)])) rfl (by rw [hml]; rfl) rfl (hb hby d4_1) (by decide) (W := 0) (by show 2 * 0 + _ ≤ _; exact Nat.le_of_eq rfl) (by decide)
  refine own_bk (S' := (T1.setTop (mkF m 4 #[rv a, rv t, iv (0 : Int32)] []))) st4 ?_
  refine own_bk (S' := (T1.setTop (mkF m 5 #[rv a, rv t, iv (0 : Int32)] [(.ref a)]))) (fun t_ kont => XS.aloadN X2.here hx rfl (hb hby d4_4) rfl rfl kont) ?_
  refine own_bk (S' := (T1.setTop (mkF m 6 #[rv a, rv t, iv (0 : Int32)] [(.ref t), (.ref a)]))) (fun t_ kont => XS.aloadN X2.here hx rfl (hb hby d4_5) rfl rfl kont) ?_
  obtain ⟨T5, h6, X7, e8, W9, st10⟩ := putF X2 hx hZ hown (host := "") (Or.inl (hw _ (List.mem_of_getElem? (i := 22) rfl))) Via.refl e3 F0 E (Or.inr ⟨(hw _ (List.mem_of_getElem? (i := 23) rfl)), rfl, hnm⟩) (hw _ (List.mem_of_getElem? (i := 10) rfl)) (ty := (.array .byte)) (by decide +kernel) rfl rfl (g := (mkF m 6 #[rv a, rv t, iv (0 : Int32)] [(.ref t), (.ref a)])) rfl rfl (hb hby d4_6)
  have N11 := Fr.snoc X7 N0 ag
  have E12 := (E.wr W9)
  have F13 := (F0.same W9)
  have F14 := (F1.other W9 (Or.inr (slot_ne (Or.inr (hw _ (List.mem_of_getElem? (i := 25) rfl))) (Or.inr (hw _ (List.mem_of_getElem? (i := 23) rfl))) (by decide) (show parseFieldDescriptor "B" = some .byte from by decide +kernel) (show parseFieldDescriptor "[B" = some (.array .byte) from by decide +kernel))))
  have Z15 := Nat.le_trans Z0 (Keep.of_wr W9).1
  have K16 := (Keep.refl h0 [a]).wr W9 (Or.inl (List.mem_of_getElem? (i := 0) rfl))
  refine own_bk (S' := (T5.setTop (mkF m 9 #[rv a, rv t, iv (0 : Int32)] []))) st10 ?_
  refine own_bk (S' := (T5.setTop (mkF m 10 #[rv a, rv t, iv (0 : Int32)] [(.ref a)]))) (fun t_ kont => XS.aloadN X7.here hx rfl (hb hby d4_9) rfl rfl kont) ?_
  refine own_bk (S' := (T5.setTop (mkF m 11 #[rv a, rv t, iv (0 : Int32)] [(.int (0 : Int32)), (.ref a)]))) (fun t_ kont => XS.iloadN X7.here hx rfl (hb hby d4_10) rfl kont) ?_
  obtain ⟨T17, h18, X19, e20, W21, st22⟩ := putF X7 hx hZ hown (host := "") (Or.inl (hw _ (List.mem_of_getElem? (i := 24) rfl))) Via.refl e8 F14 E12 (Or.inr ⟨(hw _ (List.mem_of_getElem? (i := 25) rfl)), rfl, hnm⟩) (hw _ (List.mem_of_getElem? (i := 10) rfl)) (ty := .byte) (by decide +kernel) rfl rfl (g := (mkF m 11 #[rv a, rv t, iv (0 : Int32)] [(.int (0 : Int32)), (.ref a)])) rfl rfl (hb hby d4_11)
  have N23 := Fr.snoc X19 N11 ag
  have E24 := (E12.wr W21)
  have F25 := (F13.other W21 (Or.inr (slot_ne (Or.inr (hw _ (List.mem_of_getElem? (i := 23) rfl))) (Or.inr (hw _ (List.mem_of_getElem? (i := 25) rfl))) (by decide) (show parseFieldDescriptor "[B" = some (.array .byte) from by decide +kernel) (show parseFieldDescriptor "B" = some .byte from by decide +kernel))))
  have F26 := (F14.same W21)
  have Z27 := Nat.le_trans Z15 (Keep.of_wr W21).1
  have K28 := K16.wr W21 (Or.inl (List.mem_of_getElem? (i := 0) rfl))
  refine own_bk (S' := (T17.setTop (mkF m 14 #[rv a, rv t, iv (0 : Int32)] []))) st22 ?_
  exact own_retV X19 hx hlk Bd.returns (hb hby d4_14) (by rw [e20]; exact ⟨rfl, N23, K28⟩) (by decide) (by decide)
theorem d1_0 : decode jdk_42_method_139_code 0 = .ok (.getstatic 38, 3) := by decide +kernel
theorem d1_3 : decode jdk_42_method_139_code 3 = .ok (.ifCond .eq 23, 3) := by decide +kernel
theorem d1_6 : decode jdk_42_method_139_code 6 = .ok (.iload_n 0, 1) := by decide +kernel
theorem d1_7 : decode jdk_42_method_139_code 7 = .ok (.invokestatic 1015, 3) := by decide +kernel
theorem d1_10 : decode jdk_42_method_139_code 10 = .ok (.ifCond .eq 16, 3) := by decide +kernel
theorem d1_13 : decode jdk_42_method_139_code 13 = .ok (.new 10, 3) := by decide +kernel
theorem d1_16 : decode jdk_42_method_139_code 16 = .ok (.dup, 1) := by decide +kernel
theorem d1_17 : decode jdk_42_method_139_code 17 = .ok (.iload_n 0, 1) := by decide +kernel
theorem d1_18 : decode jdk_42_method_139_code 18 = .ok (.invokestatic 1018, 3) := by decide +kernel
theorem d1_21 : decode jdk_42_method_139_code 21 = .ok (.iconst 0, 1) := by decide +kernel
theorem d1_22 : decode jdk_42_method_139_code 22 = .ok (.invokespecial 209, 3) := by decide +kernel
theorem d1_25 : decode jdk_42_method_139_code 25 = .ok (.areturn, 1) := by decide +kernel
theorem d1_26 : decode jdk_42_method_139_code 26 = .ok (.new 10, 3) := by decide +kernel
theorem d1_29 : decode jdk_42_method_139_code 29 = .ok (.dup, 1) := by decide +kernel
theorem d1_30 : decode jdk_42_method_139_code 30 = .ok (.iload_n 0, 1) := by decide +kernel
theorem d1_31 : decode jdk_42_method_139_code 31 = .ok (.invokestatic 1021, 3) := by decide +kernel
theorem d1_34 : decode jdk_42_method_139_code 34 = .ok (.iconst 1, 1) := by decide +kernel
theorem d1_35 : decode jdk_42_method_139_code 35 = .ok (.invokespecial 209, 3) := by decide +kernel
theorem d1_38 : decode jdk_42_method_139_code 38 = .ok (.areturn, 1) := by decide +kernel
theorem ef_rmVal (m : MethodId) (x0 : Int32) : entryFrame m #[(.int x0)] 1 = mkF m 0 #[.val (.int x0)] [] := by first | (simp [entryFrame, mkF, argsToLocals, Value.category, maxLocals]; done) | rfl
def Q_rmVal (Z : State) (q cz : Int32) (h0 : Heap) (n0 : Nat) (v : Option Value) (h : Heap) (L : List Loc) : Prop := Fr n0 L ∧ Old Z n0 h ∧ n0 ≤ h.size ∧ ∃ a, v = some (.ref a)
set_option maxRecDepth 65536 in
set_option maxHeartbeats 40000000 in
theorem rmVal (l : Launch) (Z : State) (a0 : Array Value) (hw : ∀ d ∈ tables_1, d.before a0 Z = true) (ws : List Jvm.Cond) (q cz : Int32) (h0 : Heap) (n0 : Nat) (Z0 : n0 ≤ h0.size) (O : Old Z n0 h0) (hq : ¬ (255 : Int32) < q) (SC : Sta Z Z.heap "java/lang/String" "COMPACT_STRINGS" "Z" (.int cz)) (hcz : ¬ cz = (0 : Int32)) :
    MetFree l (⟨"java/lang/String", "valueOf", "(C)Ljava/lang/String;"⟩ : MethodName) (head1 (Jvm.Cond.code (⟨"java/lang/String", "valueOf", "(C)Ljava/lang/String;"⟩ : MethodName) jdk_42_method_139_code 1 (some (.object "java/lang/String")) :: ws) ({ frames := 2, cells := 2, slots := 5, locals := 40 } : Room)) (fun as_ U_ => as_ = #[(.int q)] ∧ Z.Warmed39 U_.vm ∧ U_.heap = h0) (fun _ _ _ _ _ => True) (fun _ U_ o_ U2_ => ∃ v_ L_, o_ = .returned v_ ∧ (Q_rmVal Z q cz h0 n0) v_ U2_.heap L_ ∧ FrameEnd U_ o_ U2_ L_ ({ frames := 2, cells := 2, slots := 5, locals := 40 } : Room).cells ({ frames := 2, cells := 2, slots := 5, locals := 40 } : Room).slots) := by
  refine MetFree.of_bodySF (plainFor_of_name (by first | (simp [plainName, overriddenIn]; done) | decide +kernel : plainName "java/lang/String" = true)) hisR ?_
  intro p e s m args below meth c s₁ Bd hml0 hP hK
  obtain ⟨rfl, hZ, hh⟩ := hP
  have hx := Bd.exec
  have hby := Bd.bytes
  have hlk := Bd.notSynchronized
  have hml : c.maxLocals = 1 := hml0
  have hown : s.vm.findClass "java/lang/String" = some m.cls := findClass_of_methodNamed Bd.named
  have hnm := (name_of_methodNamed Bd.named Bd.method).1
  have X0 : Stand p l e ({ frames := 2, cells := 2, slots := 5, locals := 40 } : Room) s m #[(.int q)] below meth c s₁ [] 0 0 := Stand.of_body Bd
  have e0 : s₁.heap = h0 := by rw [← hh, Bd.state]; rfl
  have N0 := Fr.nil n0
  show own_Go p e below (own_R s below (Q_rmVal Z q cz h0 n0) ({ frames := 2, cells := 2, slots := 5, locals := 40 } : Room).cells ({ frames := 2, cells := 2, slots := 5, locals := 40 } : Room).slots) (s₁.setTop (entryFrame m #[(.int q)] 1))
  refine own_bk (S' := (s₁.setTop (mkF m 0 #[iv q] []))) (fun t_ kont => castTop (ef_rmVal m (q)) kont) ?_
  obtain ⟨T1, X2, e3, st4⟩ := getS2 X0 hx hZ hown (host := "") (Or.inl (hw _ (List.mem_of_getElem? (i := 4) rfl))) Via.refl e0 (SC.ext O.2) (g := (mkF m 0 #[iv q] [])) rfl (hb hby d1_0)
  refine own_bk (S' := (T1.setTop (mkF m 3 #[iv q] [(.int cz)]))) st4 ?_
  refine own_bk (S' := (T1.setTop (mkF m 6 #[iv q] []))) (fun t_ kont => XS.ifNo X2.here hx rfl (hb hby d1_3) rfl ((if0 _ _).trans (feq (hcz)).1) kont) ?_
  refine own_bk (S' := (T1.setTop (mkF m 7 #[iv q] [(.int q)]))) (fun t_ kont => XS.iloadN X2.here hx rfl (hb hby d1_6) rfl kont) ?_
  obtain ⟨_, _, ⟨T5, L6, k7, n8⟩, -, X9, ⟨Lc10, hQ11, l12, y13, z14⟩, st15⟩ := Jvm.LawKit.callS X2 hx (y := (⟨"java/lang/StringLatin1", "canEncode", "(C)Z"⟩ : MethodName)) hown (mvT hZ (hw _ (List.mem_of_getElem? (i := 5) rfl))) (mvT hZ (hw _ (List.mem_of_getElem? (i := 6) rfl))) (mvT hZ (hw _ (List.mem_of_getElem? (i := 7) rfl))) (mvT hZ (hw _ (List.mem_of_getElem? (i := 8) rfl))) (by decide) (backOf (W := 0) (rmCan l Z a0 hw [] q h0 n0 Z0 hq) hZ (hw _ (List.mem_of_getElem? (i := 8) rfl)) (hw _ (List.mem_of_getElem? (i := 7) rfl)) (by decide) (by decide)) (g := (mkF m 7 #[iv q] [(.int q)])) rfl (by rw [hml]; rfl) (argsL := [(.int q)]) (rest := []) (lenOf (by decide +kernel : parseMethodDescriptor "(C)Z" = some ⟨[.char], some .boolean⟩) rfl) rfl (by show 2 * 0 + _ ≤ _; exact Nat.le_of_eq rfl) (hb hby d1_7) (fun _ _ => ⟨rfl, e3, (by decide : 0 + 0 ≤ _), (by decide : 0 + 0 ≤ _)⟩)
  dsimp only [Pt.U, Pt.locs, Pt.cells, Pt.slots] at X9 l12 y13 z14 st15 hQ11
  subst l12 y13 z14
  obtain ⟨rfl, N16, e17⟩ := hQ11
  have N18 := Fr.app N0 N16
  refine own_bk (S' := (T5.setTop (mkF m 10 #[iv q] [(.int (1 : Int32))]))) st15 ?_
  refine own_bk (S' := (T5.setTop (mkF m 13 #[iv q] []))) (fun t_ kont => XS.ifNo X9.here hx rfl (hb hby d1_10) rfl ((if0 _ _).trans (feq (by decide : ¬ ((1 : Int32)) = ((0 : Int32)))).1) kont) ?_
  obtain ⟨T19, h20, X21, e22, E23, A24, D25, -, st26⟩ := newO X9 hx hZ hown (hw _ (List.mem_of_getElem? (i := 9) rfl)) (hw _ (List.mem_of_getElem? (i := 10) rfl)) (hw _ (List.mem_of_getElem? (i := 2) rfl)) e17 (g := (mkF m 13 #[iv q] [])) rfl (hb hby d1_13) (by decide) (by decide)
  obtain ⟨a27, g28⟩ : ∃ z, z = h0.size := ⟨_, rfl⟩
  rw [← g28] at A24 D25 st26
  have ag29 : n0 ≤ a27 := Nat.le_trans Z0 (Nat.le_of_eq g28.symm)
  have Z30 := Nat.le_trans Z0 E23.1
  have O31 := O.ext E23
  have F32 : Fld Z h20 a27 "java/lang/String" "value" "[B" .null := (D25 (Or.inr (hw _ (List.mem_of_getElem? (i := 23) rfl))) (ty := (.array .byte)) (by decide +kernel))
  have F33 : Fld Z h20 a27 "java/lang/String" "coder" "B" (.int (0 : Int32)) := (D25 (Or.inr (hw _ (List.mem_of_getElem? (i := 25) rfl))) (ty := .byte) (by decide +kernel))
  refine own_bk (S' := (T19.setTop (mkF m 16 #[iv q] [(.ref a27)]))) st26 ?_
  refine own_bk (S' := (T19.setTop (mkF m 17 #[iv q] [(.ref a27), (.ref a27)]))) (fun t_ kont => XS.dup X21.here hx rfl (hb hby d1_16) rfl rfl kont) ?_
  refine own_bk (S' := (T19.setTop (mkF m 18 #[iv q] [(.int q), (.ref a27), (.ref a27)]))) (fun t_ kont => XS.iloadN X21.here hx rfl (hb hby d1_17) rfl kont) ?_
  obtain ⟨_, _, ⟨T34, L35, k36, n37⟩, -, X38, ⟨Lc39, hQ40, l41, y42, z43⟩, st44⟩ := Jvm.LawKit.callS X21 hx (y := (⟨"java/lang/StringLatin1", "toBytes", "(C)[B"⟩ : MethodName)) hown (mvT hZ (hw _ (List.mem_of_getElem? (i := 11) rfl))) (mvT hZ (hw _ (List.mem_of_getElem? (i := 12) rfl))) (mvT hZ (hw _ (List.mem_of_getElem? (i := 7) rfl))) (mvT hZ (hw _ (List.mem_of_getElem? (i := 13) rfl))) (by decide) (backOf (W := 2) (rmToB l Z a0 hw [] q h20 n0 Z30 O31) hZ (hw _ (List.mem_of_getElem? (i := 13) rfl)) (hw _ (List.mem_of_getElem? (i := 7) rfl)) (by decide) (by decide)) (g := (mkF m 18 #[iv q] [(.int q), (.ref a27), (.ref a27)])) rfl (by rw [hml]; rfl) (argsL := [(.int q)]) (rest := [(.ref a27), (.ref a27)]) (lenOf (by decide +kernel : parseMethodDescriptor "(C)[B" = some ⟨[.char], some (.array .byte)⟩) rfl) rfl (by show 2 * 0 + _ ≤ _; exact Nat.le_of_eq rfl) (hb hby d1_18) (fun _ _ => ⟨rfl, e22, (by decide : 1 + 1 ≤ _), (by decide : 4 + 1 ≤ _)⟩)
  dsimp only [Pt.U, Pt.locs, Pt.cells, Pt.slots] at X38 l41 y42 z43 st44 hQ40
  subst l41 y42 z43
  obtain ⟨N45, O_, K_, t_, rfl, tg_⟩ := hQ40
  have N47 := Fr.app N18 N45
  have E48 := (A24.keep K_)
  have F49 := (F32.keep K_ nin0)
  have F50 := (F33.keep K_ nin0)
  have Z51 := Nat.le_trans Z30 K_.1
  have O52 := O31.keep K_ all0
  refine own_bk (S' := (T34.setTop (mkF m 21 #[iv q] [(.ref t_), (.ref a27), (.ref a27)]))) st44 ?_
  refine own_bk (S' := (T34.setTop (mkF m 22 #[iv q] [(.int (0 : Int32)), (.ref t_), (.ref a27), (.ref a27)]))) (fun t_ kont => XS.iconst X38.here hx rfl (hb hby d1_21) kont) ?_
  obtain ⟨_, _, ⟨T53, L54, k55, n56⟩, -, X57, ⟨Lc58, hQ59, l60, y61, z62⟩, st63⟩ := X38.specialBack hx (y := (⟨"java/lang/String", "<init>", "([BB)V"⟩ : MethodName)) rfl hown (mvT hZ (hw _ (List.mem_of_getElem? (i := 15) rfl))) (mvT hZ (hw _ (List.mem_of_getElem? (i := 16) rfl))) (mvT hZ (hw _ (List.mem_of_getElem? (i := 18) rfl))) (by decide) (backOf (W := 1) (rmBB l Z a0 hw [] a27 t_ T34.heap n0 Z51 E48 ag29 F49 F50) hZ (hw _ (List.mem_of_getElem? (i := 18) rfl)) (hw _ (List.mem_of_getElem? (i := 2) rfl)) (by decide) (by decide)) (g := (mkF m 22 #[iv q] [(.int (0 : Int32)), (.ref t_), (.ref a27), (.ref a27)])) rfl (by rw [hml]; rfl) (Steps.refl _) (a := a27) (argsL := [(.ref t_), (.int (0 : Int32))]) (rest := [(.ref a27)]) (lenOf (by decide +kernel : parseMethodDescriptor "([BB)V" = some ⟨[(.array .byte), .byte], none⟩) rfl) rfl (by show 2 * 0 + _ ≤ _; exact Nat.le_of_eq rfl) (hb hby d1_22) (fun _ _ => ⟨rfl, rfl, (by decide : 2 + 0 ≤ _), (by decide : 5 + 0 ≤ _)⟩)
  dsimp only [Pt.U, Pt.locs, Pt.cells, Pt.slots] at X57 l60 y61 z62 st63 hQ59
  subst l60 y61 z62
  obtain ⟨rfl, N64, K2_⟩ := hQ59
  have N66 := Fr.app N47 N64
  have E67 := (E48.keep K2_)
  have Z68 := Nat.le_trans Z51 K2_.1
  have O69 := O_.keep K2_ (allS ag29 all0)
  refine own_tr (S' := (T53.setTop (mkF m 25 #[iv q] [(.ref a27)]))) st63 ?_
  exact own_retA X57 hx hlk Bd.returns rfl rfl rfl (hb hby d1_25) ⟨N66, O69, Z68, _, rfl⟩ (by decide) (by decide)
theorem d11_0 : decode method_2_code 0 = .ok (.iload_n 0, 1) := by decide +kernel
theorem d11_1 : decode method_2_code 1 = .ok (.ifCond .ne 7, 3) := by decide +kernel
theorem d11_4 : decode method_2_code 4 = .ok (.getstatic 7, 3) := by decide +kernel
theorem d11_7 : decode method_2_code 7 = .ok (.areturn, 1) := by decide +kernel
theorem d11_8 : decode method_2_code 8 = .ok (.iload_n 0, 1) := by decide +kernel
theorem d11_9 : decode method_2_code 9 = .ok (.iconst 1, 1) := by decide +kernel
theorem d11_10 : decode method_2_code 10 = .ok (.if_icmp .ne 7, 3) := by decide +kernel
theorem d11_13 : decode method_2_code 13 = .ok (.getstatic 13, 3) := by decide +kernel
theorem d11_16 : decode method_2_code 16 = .ok (.areturn, 1) := by decide +kernel
theorem d11_17 : decode method_2_code 17 = .ok (.iload_n 0, 1) := by decide +kernel
theorem d11_18 : decode method_2_code 18 = .ok (.iconst 2, 1) := by decide +kernel
theorem d11_19 : decode method_2_code 19 = .ok (.if_icmp .ne 7, 3) := by decide +kernel
theorem d11_22 : decode method_2_code 22 = .ok (.getstatic 16, 3) := by decide +kernel
theorem d11_25 : decode method_2_code 25 = .ok (.areturn, 1) := by decide +kernel
theorem d11_26 : decode method_2_code 26 = .ok (.getstatic 19, 3) := by decide +kernel
theorem d11_29 : decode method_2_code 29 = .ok (.areturn, 1) := by decide +kernel
theorem ef_rm1 (m : MethodId) (x0 : Int32) : entryFrame m #[(.int x0)] 1 = mkF m 0 #[.val (.int x0)] [] := by first | (simp [entryFrame, mkF, argsToLocals, Value.category, maxLocals]; done) | rfl
def Q_rm1 (Z : State) (k : Int32) (r_VALID r_INVALID r_NOT_SUPPORTED r_NOT_CHECKED rres : Addr) (h0 : Heap) (n0 : Nat) (v : Option Value) (h : Heap) (L : List Loc) : Prop := v = some (.ref rres) ∧ Fr n0 L ∧ h = h0
set_option maxRecDepth 65536 in
set_option maxHeartbeats 40000000 in
theorem rm1 (l : Launch) (Z : State) (a0 : Array Value) (hw : ∀ d ∈ tables_1, d.before a0 Z = true) (ws : List Jvm.Cond) (k : Int32) (r_VALID r_INVALID r_NOT_SUPPORTED r_NOT_CHECKED rres : Addr) (h0 : Heap) (n0 : Nat) (Z0 : n0 ≤ h0.size) (S_VALID : Sta Z h0 "com/example/markupkeel/markupkeel/validator/TestSuite$Verdict" "VALID" "Lcom/example/markupkeel/markupkeel/validator/TestSuite$Verdict;" (.ref r_VALID)) (S_INVALID : Sta Z h0 "com/example/markupkeel/markupkeel/validator/TestSuite$Verdict" "INVALID" "Lcom/example/markupkeel/markupkeel/validator/TestSuite$Verdict;" (.ref r_INVALID)) (S_NOT_SUPPORTED : Sta Z h0 "com/example/markupkeel/markupkeel/validator/TestSuite$Verdict" "NOT_SUPPORTED" "Lcom/example/markupkeel/markupkeel/validator/TestSuite$Verdict;" (.ref r_NOT_SUPPORTED)) (S_NOT_CHECKED : Sta Z h0 "com/example/markupkeel/markupkeel/validator/TestSuite$Verdict" "NOT_CHECKED" "Lcom/example/markupkeel/markupkeel/validator/TestSuite$Verdict;" (.ref r_NOT_CHECKED)) (hv : (if k = 0 then r_VALID else if k = 1 then r_INVALID else if k = 2 then r_NOT_SUPPORTED else r_NOT_CHECKED) = rres) :
    MetFree l (⟨"com/example/markupkeel/markupkeel/validator/OutcomeAgreesPinLaw", "verdict", "(I)Lcom/example/markupkeel/markupkeel/validator/TestSuite$Verdict;"⟩ : MethodName) (head1 (Jvm.Cond.code (⟨"com/example/markupkeel/markupkeel/validator/OutcomeAgreesPinLaw", "verdict", "(I)Lcom/example/markupkeel/markupkeel/validator/TestSuite$Verdict;"⟩ : MethodName) method_2_code 1 (some (.object "com/example/markupkeel/markupkeel/validator/TestSuite$Verdict")) :: ws) ({ frames := 0, cells := 0, slots := 0, locals := 0 } : Room)) (fun as_ U_ => as_ = #[(.int k)] ∧ Z.Warmed39 U_.vm ∧ U_.heap = h0) (fun _ _ _ _ _ => True) (fun _ U_ o_ U2_ => ∃ v_ L_, o_ = .returned v_ ∧ (Q_rm1 Z k r_VALID r_INVALID r_NOT_SUPPORTED r_NOT_CHECKED rres h0 n0) v_ U2_.heap L_ ∧ FrameEnd U_ o_ U2_ L_ ({ frames := 0, cells := 0, slots := 0, locals := 0 } : Room).cells ({ frames := 0, cells := 0, slots := 0, locals := 0 } : Room).slots) := by
  refine MetFree.of_bodySF (plainFor_of_name (by first | (simp [plainName, overriddenIn]; done) | decide +kernel : plainName "com/example/markupkeel/markupkeel/validator/OutcomeAgreesPinLaw" = true)) hisR ?_
  intro p e s m args below meth c s₁ Bd hml0 hP hK
  obtain ⟨rfl, hZ, hh⟩ := hP
  have hx := Bd.exec
  have hby := Bd.bytes
  have hlk := Bd.notSynchronized
  have hml : c.maxLocals = 1 := hml0
  have hown : s.vm.findClass "com/example/markupkeel/markupkeel/validator/OutcomeAgreesPinLaw" = some m.cls := findClass_of_methodNamed Bd.named
  have hnm := (name_of_methodNamed Bd.named Bd.method).1
  have X0 : Stand p l e ({ frames := 0, cells := 0, slots := 0, locals := 0 } : Room) s m #[(.int k)] below meth c s₁ [] 0 0 := Stand.of_body Bd
  have e0 : s₁.heap = h0 := by rw [← hh, Bd.state]; rfl
  have N0 := Fr.nil n0
  show own_Go p e below (own_R s below (Q_rm1 Z k r_VALID r_INVALID r_NOT_SUPPORTED r_NOT_CHECKED rres h0 n0) ({ frames := 0, cells := 0, slots := 0, locals := 0 } : Room).cells ({ frames := 0, cells := 0, slots := 0, locals := 0 } : Room).slots) (s₁.setTop (entryFrame m #[(.int k)] 1))
  refine own_bk (S' := (s₁.setTop (mkF m 0 #[iv k] []))) (fun t_ kont => castTop (ef_rm1 m (k)) kont) ?_
  refine own_bk (S' := (s₁.setTop (mkF m 1 #[iv k] [(.int k)]))) (fun t_ kont => XS.iloadN X0.here hx rfl (hb hby d11_0) rfl kont) ?_
  by_cases hc1 : (k) = ((0 : Int32))
  · refine own_bk (S' := (s₁.setTop (mkF m 4 #[iv k] []))) (fun t_ kont => XS.ifNo X0.here hx rfl (hb hby d11_1) rfl ((if0 _ _).trans (teq (hc1)).2) kont) ?_
    obtain ⟨T2, X3, e4, st5⟩ := getS2 X0 hx hZ hown (host := "") (Or.inl (hw _ (List.mem_of_getElem? (i := 48) rfl))) Via.refl e0 S_VALID (g := (mkF m 4 #[iv k] [])) rfl (hb hby d11_4)
    refine own_bk (S' := (T2.setTop (mkF m 7 #[iv k] [(.ref r_VALID)]))) st5 ?_
    exact own_retA X3 hx hlk Bd.returns rfl rfl rfl (hb hby d11_7) ⟨by rw [← hv]; simp [hc1], N0, e4⟩ (by decide) (by decide)
  · refine own_bk (S' := (s₁.setTop (mkF m 8 #[iv k] []))) (fun t_ kont => XS.ifYes X0.here hx rfl (pc0 := 1) (pc' := 8) rfl (hb hby d11_1) rfl ((if0 _ _).trans (feq (hc1)).2) (by decide) (by decide) kont) ?_
    refine own_bk (S' := (s₁.setTop (mkF m 9 #[iv k] [(.int k)]))) (fun t_ kont => XS.iloadN X0.here hx rfl (hb hby d11_8) rfl kont) ?_
    refine own_bk (S' := (s₁.setTop (mkF m 10 #[iv k] [(.int (1 : Int32)), (.int k)]))) (fun t_ kont => XS.iconst X0.here hx rfl (hb hby d11_9) kont) ?_
    by_cases hc6 : (k) = ((1 : Int32))
    · refine own_bk (S' := (s₁.setTop (mkF m 13 #[iv k] []))) (fun t_ kont => XS.icmpNo X0.here hx rfl (hb hby d11_10) rfl (teq (hc6)).2 kont) ?_
      obtain ⟨T7, X8, e9, st10⟩ := getS2 X0 hx hZ hown (host := "") (Or.inl (hw _ (List.mem_of_getElem? (i := 82) rfl))) Via.refl e0 S_INVALID (g := (mkF m 13 #[iv k] [])) rfl (hb hby d11_13)
      refine own_bk (S' := (T7.setTop (mkF m 16 #[iv k] [(.ref r_INVALID)]))) st10 ?_
      exact own_retA X8 hx hlk Bd.returns rfl rfl rfl (hb hby d11_16) ⟨by rw [← hv]; simp [hc1, hc6], N0, e9⟩ (by decide) (by decide)
    · refine own_bk (S' := (s₁.setTop (mkF m 17 #[iv k] []))) (fun t_ kont => XS.icmpYes X0.here hx rfl (pc0 := 10) (pc' := 17) rfl (hb hby d11_10) rfl (feq (hc6)).2 (by decide) (by decide) kont) ?_
      refine own_bk (S' := (s₁.setTop (mkF m 18 #[iv k] [(.int k)]))) (fun t_ kont => XS.iloadN X0.here hx rfl (hb hby d11_17) rfl kont) ?_
      refine own_bk (S' := (s₁.setTop (mkF m 19 #[iv k] [(.int (2 : Int32)), (.int k)]))) (fun t_ kont => XS.iconst X0.here hx rfl (hb hby d11_18) kont) ?_
      by_cases hc11 : (k) = ((2 : Int32))
      · refine own_bk (S' := (s₁.setTop (mkF m 22 #[iv k] []))) (fun t_ kont => XS.icmpNo X0.here hx rfl (hb hby d11_19) rfl (teq (hc11)).2 kont) ?_
        obtain ⟨T12, X13, e14, st15⟩ := getS2 X0 hx hZ hown (host := "") (Or.inl (hw _ (List.mem_of_getElem? (i := 80) rfl))) Via.refl e0 S_NOT_SUPPORTED (g := (mkF m 22 #[iv k] [])) rfl (hb hby d11_22)
        refine own_bk (S' := (T12.setTop (mkF m 25 #[iv k] [(.ref r_NOT_SUPPORTED)]))) st15 ?_
        exact own_retA X13 hx hlk Bd.returns rfl rfl rfl (hb hby d11_25) ⟨by rw [← hv]; simp [hc1, hc6, hc11], N0, e14⟩ (by decide) (by decide)
      · refine own_bk (S' := (s₁.setTop (mkF m 26 #[iv k] []))) (fun t_ kont => XS.icmpYes X0.here hx rfl (pc0 := 19) (pc' := 26) rfl (hb hby d11_19) rfl (feq (hc11)).2 (by decide) (by decide) kont) ?_
        obtain ⟨T16, X17, e18, st19⟩ := getS2 X0 hx hZ hown (host := "") (Or.inl (hw _ (List.mem_of_getElem? (i := 51) rfl))) Via.refl e0 S_NOT_CHECKED (g := (mkF m 26 #[iv k] [])) rfl (hb hby d11_26)
        refine own_bk (S' := (T16.setTop (mkF m 29 #[iv k] [(.ref r_NOT_CHECKED)]))) st19 ?_
        exact own_retA X17 hx hlk Bd.returns rfl rfl rfl (hb hby d11_29) ⟨by rw [← hv]; simp [hc1, hc6, hc11], N0, e18⟩ (by decide) (by decide)
theorem d12_0 : decode prog_189_method_1_code 0 = .ok (.aload_n 0, 1) := by decide +kernel
theorem d12_1 : decode prog_189_method_1_code 1 = .ok (.invokespecial 1, 3) := by decide +kernel
theorem d12_4 : decode prog_189_method_1_code 4 = .ok (.aload_n 0, 1) := by decide +kernel
theorem d12_5 : decode prog_189_method_1_code 5 = .ok (.aload_n 1, 1) := by decide +kernel
theorem d12_6 : decode prog_189_method_1_code 6 = .ok (.putfield 7, 3) := by decide +kernel
theorem d12_9 : decode prog_189_method_1_code 9 = .ok (.aload_n 0, 1) := by decide +kernel
theorem d12_10 : decode prog_189_method_1_code 10 = .ok (.aload_n 2, 1) := by decide +kernel
theorem d12_11 : decode prog_189_method_1_code 11 = .ok (.putfield 13, 3) := by decide +kernel
theorem d12_14 : decode prog_189_method_1_code 14 = .ok (.aload_n 0, 1) := by decide +kernel
theorem d12_15 : decode prog_189_method_1_code 15 = .ok (.aload_n 3, 1) := by decide +kernel
theorem d12_16 : decode prog_189_method_1_code 16 = .ok (.putfield 16, 3) := by decide +kernel
theorem d12_19 : decode prog_189_method_1_code 19 = .ok (.aload_n 0, 1) := by decide +kernel
theorem d12_20 : decode prog_189_method_1_code 20 = .ok (.aload 4, 2) := by decide +kernel
theorem d12_22 : decode prog_189_method_1_code 22 = .ok (.putfield 19, 3) := by decide +kernel
theorem d12_25 : decode prog_189_method_1_code 25 = .ok (.aload_n 0, 1) := by decide +kernel
theorem d12_26 : decode prog_189_method_1_code 26 = .ok (.aload 5, 2) := by decide +kernel
theorem d12_28 : decode prog_189_method_1_code 28 = .ok (.putfield 23, 3) := by decide +kernel
theorem d12_31 : decode prog_189_method_1_code 31 = .ok (.return_, 1) := by decide +kernel
theorem ef_rm12 (m : MethodId) (x0 : Addr) (x1 : Addr) (x2 : Addr) (x3 : Addr) (x4 : Addr) (x5 : Addr) : entryFrame m #[(.ref x0), (.ref x1), (.ref x2), (.ref x3), (.ref x4), (.ref x5)] 6 = mkF m 0 #[.val (.ref x0), .val (.ref x1), .val (.ref x2), .val (.ref x3), .val (.ref x4), .val (.ref x5)] [] := by first | (simp [entryFrame, mkF, argsToLocals, Value.category, maxLocals]; done) | rfl
def Q_rm12 (Z : State) (a x0 x1 x2 x3 x4 : Addr) (h0 : Heap) (n0 : Nat) (v : Option Value) (h : Heap) (L : List Loc) : Prop := v = none ∧ Fr n0 L ∧ Keep h0 h [a] ∧ Fld Z h a "com/example/markupkeel/markupkeel/validator/TestSuite$Outcome" "expected" "Lcom/example/markupkeel/markupkeel/validator/TestSuite$Verdict;" (.ref x3) ∧ Fld Z h a "com/example/markupkeel/markupkeel/validator/TestSuite$Outcome" "actual" "Lcom/example/markupkeel/markupkeel/validator/TestSuite$Verdict;" (.ref x4)
set_option maxRecDepth 65536 in
set_option maxHeartbeats 40000000 in
theorem rm12 (l : Launch) (Z : State) (a0 : Array Value) (hw : ∀ d ∈ tables_1, d.before a0 Z = true) (ws : List Jvm.Cond) (a x0 x1 x2 x3 x4 : Addr) (h0 : Heap) (n0 : Nat) (Z0 : n0 ≤ h0.size) (E : Exa Z h0 a "com/example/markupkeel/markupkeel/validator/TestSuite$Outcome") (ag : n0 ≤ a) (F0 : Fld Z h0 a "com/example/markupkeel/markupkeel/validator/TestSuite$Outcome" "set" "Ljava/lang/String;" .null) (F1 : Fld Z h0 a "com/example/markupkeel/markupkeel/validator/TestSuite$Outcome" "group" "Ljava/lang/String;" .null) (F2 : Fld Z h0 a "com/example/markupkeel/markupkeel/validator/TestSuite$Outcome" "test" "Ljava/lang/String;" .null) (F3 : Fld Z h0 a "com/example/markupkeel/markupkeel/validator/TestSuite$Outcome" "expected" "Lcom/example/markupkeel/markupkeel/validator/TestSuite$Verdict;" .null) (F4 : Fld Z h0 a "com/example/markupkeel/markupkeel/validator/TestSuite$Outcome" "actual" "Lcom/example/markupkeel/markupkeel/validator/TestSuite$Verdict;" .null) :
    MetFree l (⟨"com/example/markupkeel/markupkeel/validator/TestSuite$Outcome", "<init>", "(Ljava/lang/String;Ljava/lang/String;Ljava/lang/String;Lcom/example/markupkeel/markupkeel/validator/TestSuite$Verdict;Lcom/example/markupkeel/markupkeel/validator/TestSuite$Verdict;)V"⟩ : MethodName) (head1 (Jvm.Cond.code (⟨"com/example/markupkeel/markupkeel/validator/TestSuite$Outcome", "<init>", "(Ljava/lang/String;Ljava/lang/String;Ljava/lang/String;Lcom/example/markupkeel/markupkeel/validator/TestSuite$Verdict;Lcom/example/markupkeel/markupkeel/validator/TestSuite$Verdict;)V"⟩ : MethodName) prog_189_method_1_code 6 none :: ws) ({ frames := 2, cells := 0, slots := 0, locals := 40 } : Room)) (fun as_ U_ => as_ = #[(.ref a), (.ref x0), (.ref x1), (.ref x2), (.ref x3), (.ref x4)] ∧ Z.Warmed39 U_.vm ∧ U_.heap = h0) (fun _ _ _ _ _ => True) (fun _ U_ o_ U2_ => ∃ v_ L_, o_ = .returned v_ ∧ (Q_rm12 Z a x0 x1 x2 x3 x4 h0 n0) v_ U2_.heap L_ ∧ FrameEnd U_ o_ U2_ L_ ({ frames := 2, cells := 0, slots := 0, locals := 40 } : Room).cells ({ frames := 2, cells := 0, slots := 0, locals := 40 } : Room).slots) := by
  refine MetFree.of_bodySF (plainFor_of_name (by first | (simp [plainName, overriddenIn]; done) | decide +kernel : plainName "com/example/markupkeel/markupkeel/validator/TestSuite$Outcome" = true)) hisR ?_
  intro p e s m args below meth c s₁ Bd hml0 hP hK
  obtain ⟨rfl, hZ, hh⟩ := hP
  have hx := Bd.exec
  have hby := Bd.bytes
  have hlk := Bd.notSynchronized
  have hml : c.maxLocals = 6 := hml0
  have hown : s.vm.findClass "com/example/markupkeel/markupkeel/validator/TestSuite$Outcome" = some m.cls := findClass_of_methodNamed Bd.named
  have hnm := (name_of_methodNamed Bd.named Bd.method).1
  have X0 : Stand p l e ({ frames := 2, cells := 0, slots := 0, locals := 40 } : Room) s m #[(.ref a), (.ref x0), (.ref x1), (.ref x2), (.ref x3), (.ref x4)] below meth c s₁ [] 0 0 := Stand.of_body Bd
  have e0 : s₁.heap = h0 := by rw [← hh, Bd.state]; rfl
  have N0 := Fr.nil n0
  show own_Go p e below (own_R s below (Q_rm12 Z a x0 x1 x2 x3 x4 h0 n0) ({ frames := 2, cells := 0, slots := 0, locals := 40 } : Room).cells ({ frames := 2, cells := 0, slots := 0, locals := 40 } : Room).slots) (s₁.setTop (entryFrame m #[(.ref a), (.ref x0), (.ref x1), (.ref x2), (.ref x3), (.ref x4)] 6))
  refine own_bk (S' := (s₁.setTop (mkF m 0 #[rv a, rv x0, rv x1, rv x2, rv x3, rv x4] []))) (fun t_ kont => castTop (ef_rm12 m (a) (x0) (x1) (x2) (x3) (x4)) kont) ?_
  refine own_bk (S' := (s₁.setTop (mkF m 1 #[rv a, rv x0, rv x1, rv x2, rv x3, rv x4] [(.ref a)]))) (fun t_ kont => XS.aloadN X0.here hx rfl (hb hby d12_0) rfl rfl kont) ?_
  obtain ⟨_, _, ⟨T1, L2, k3, n4⟩, -, X5, ⟨Lc6, hQ7, l8, y9, z10⟩, st11⟩ := X0.specialBack hx (y := (⟨"java/lang/Record", "<init>", "()V"⟩ : MethodName)) rfl hown (mvT hZ (hw _ (List.mem_of_getElem? (i := 59) rfl))) (mvT hZ (hw _ (List.mem_of_getElem? (i := 60) rfl))) (mvT hZ (hw _ (List.mem_of_getElem? (i := 63) rfl))) (by decide) (backOf (W := 0) (rmRec l Z a0 hw [] a h0 n0 Z0) hZ (hw _ (List.mem_of_getElem? (i := 63) rfl)) (hw _ (List.mem_of_getElem? (i := 62) rfl)) (by decide) (by decide)) (g := (mkF m 1 #[rv a, rv x0, rv x1, rv x2, rv x3, rv x4] [(.ref a)])) rfl (by rw [hml]; rfl) (Steps.refl _) (a := a) (argsL := []) (rest := []) (lenOf (by decide +kernel : parseMethodDescriptor "()V" = some ⟨[], none⟩) rfl) rfl (by show 2 * 0 + _ ≤ _; exact Nat.le_of_eq rfl) (hb hby d12_1) (fun _ _ => ⟨rfl, e0, (by decide : 0 + 0 ≤ _), (by decide : 0 + 0 ≤ _)⟩)
  dsimp only [Pt.U, Pt.locs, Pt.cells, Pt.slots] at X5 l8 y9 z10 st11 hQ7
  subst l8 y9 z10
  obtain ⟨rfl, N12, e13⟩ := hQ7
  have N14 := Fr.app N0 N12
  refine own_tr (S' := (T1.setTop (mkF m 4 #[rv a, rv x0, rv x1, rv x2, rv x3, rv x4] []))) st11 ?_
  refine own_bk (S' := (T1.setTop (mkF m 5 #[rv a, rv x0, rv x1, rv x2, rv x3, rv x4] [(.ref a)]))) (fun t_ kont => XS.aloadN X5.here hx rfl (hb hby d12_4) rfl rfl kont) ?_
  refine own_bk (S' := (T1.setTop (mkF m 6 #[rv a, rv x0, rv x1, rv x2, rv x3, rv x4] [(.ref x0), (.ref a)]))) (fun t_ kont => XS.aloadN X5.here hx rfl (hb hby d12_5) rfl rfl kont) ?_
  obtain ⟨T15, h16, X17, e18, W19, st20⟩ := putF X5 hx hZ hown (host := "") (Or.inl (hw _ (List.mem_of_getElem? (i := 65) rfl))) Via.refl e13 F0 E (Or.inr ⟨(hw _ (List.mem_of_getElem? (i := 66) rfl)), rfl, hnm⟩) (hw _ (List.mem_of_getElem? (i := 54) rfl)) (ty := (.object "java/lang/String")) (by decide +kernel) rfl rfl (g := (mkF m 6 #[rv a, rv x0, rv x1, rv x2, rv x3, rv x4] [(.ref x0), (.ref a)])) rfl rfl (hb hby d12_6)
  have N21 := Fr.snoc X17 N14 ag
  have E22 := (E.wr W19)
  have F23 := (F0.same W19)
  have F24 := (F1.other W19 (Or.inr (slot_ne (Or.inr (hw _ (List.mem_of_getElem? (i := 68) rfl))) (Or.inr (hw _ (List.mem_of_getElem? (i := 66) rfl))) (by decide) (show parseFieldDescriptor "Ljava/lang/String;" = some (.object "java/lang/String") from by decide +kernel) (show parseFieldDescriptor "Ljava/lang/String;" = some (.object "java/lang/String") from by decide +kernel))))
  have F25 := (F2.other W19 (Or.inr (slot_ne (Or.inr (hw _ (List.mem_of_getElem? (i := 70) rfl))) (Or.inr (hw _ (List.mem_of_getElem? (i := 66) rfl))) (by decide) (show parseFieldDescriptor "Ljava/lang/String;" = some (.object "java/lang/String") from by decide +kernel) (show parseFieldDescriptor "Ljava/lang/String;" = some (.object "java/lang/String") from by decide +kernel))))
  have F26 := (F3.other W19 (Or.inr (slot_ne (Or.inr (hw _ (List.mem_of_getElem? (i := 72) rfl))) (Or.inr (hw _ (List.mem_of_getElem? (i := 66) rfl))) (by decide) (show parseFieldDescriptor "Lcom/example/markupkeel/markupkeel/validator/TestSuite$Verdict;" = some (.object "com/example/markupkeel/markupkeel/validator/TestSuite$Verdict") from by decide +kernel) (show parseFieldDescriptor "Ljava/lang/String;" = some (.object "java/lang/String") from by decide +kernel))))
  have F27 := (F4.other W19 (Or.inr (slot_ne (Or.inr (hw _ (List.mem_of_getElem? (i := 74) rfl))) (Or.inr (hw _ (List.mem_of_getElem? (i := 66) rfl))) (by decide) (show parseFieldDescriptor "Lcom/example/markupkeel/markupkeel/validator/TestSuite$Verdict;" = some (.object "com/example/markupkeel/markupkeel/validator/TestSuite$Verdict") from by decide +kernel) (show parseFieldDescriptor "Ljava/lang/String;" = some (.object "java/lang/String") from by decide +kernel))))
  have Z28 := Nat.le_trans Z0 (Keep.of_wr W19).1
  have K29 := (Keep.refl h0 [a]).wr W19 (Or.inl (List.mem_of_getElem? (i := 0) rfl))
  refine own_bk (S' := (T15.setTop (mkF m 9 #[rv a, rv x0, rv x1, rv x2, rv x3, rv x4] []))) st20 ?_
  refine own_bk (S' := (T15.setTop (mkF m 10 #[rv a, rv x0, rv x1, rv x2, rv x3, rv x4] [(.ref a)]))) (fun t_ kont => XS.aloadN X17.here hx rfl (hb hby d12_9) rfl rfl kont) ?_
  refine own_bk (S' := (T15.setTop (mkF m 11 #[rv a, rv x0, rv x1, rv x2, rv x3, rv x4] [(.ref x1), (.ref a)]))) (fun t_ kont => XS.aloadN X17.here hx rfl (hb hby d12_10) rfl rfl kont) ?_
  obtain ⟨T30, h31, X32, e33, W34, st35⟩ := putF X17 hx hZ hown (host := "") (Or.inl (hw _ (List.mem_of_getElem? (i := 67) rfl))) Via.refl e18 F24 E22 (Or.inr ⟨(hw _ (List.mem_of_getElem? (i := 68) rfl)), rfl, hnm⟩) (hw _ (List.mem_of_getElem? (i := 54) rfl)) (ty := (.object "java/lang/String")) (by decide +kernel) rfl rfl (g := (mkF m 11 #[rv a, rv x0, rv x1, rv x2, rv x3, rv x4] [(.ref x1), (.ref a)])) rfl rfl (hb hby d12_11)
  have N36 := Fr.snoc X32 N21 ag
  have E37 := (E22.wr W34)
  have F38 := (F23.other W34 (Or.inr (slot_ne (Or.inr (hw _ (List.mem_of_getElem? (i := 66) rfl))) (Or.inr (hw _ (List.mem_of_getElem? (i := 68) rfl))) (by decide) (show parseFieldDescriptor "Ljava/lang/String;" = some (.object "java/lang/String") from by decide +kernel) (show parseFieldDescriptor "Ljava/lang/String;" = some (.object "java/lang/String") from by decide +kernel))))
  have F39 := (F24.same W34)
  have F40 := (F25.other W34 (Or.inr (slot_ne (Or.inr (hw _ (List.mem_of_getElem? (i := 70) rfl))) (Or.inr (hw _ (List.mem_of_getElem? (i := 68) rfl))) (by decide) (show parseFieldDescriptor "Ljava/lang/String;" = some (.object "java/lang/String") from by decide +kernel) (show parseFieldDescriptor "Ljava/lang/String;" = some (.object "java/lang/String") from by decide +kernel))))
  have F41 := (F26.other W34 (Or.inr (slot_ne (Or.inr (hw _ (List.mem_of_getElem? (i := 72) rfl))) (Or.inr (hw _ (List.mem_of_getElem? (i := 68) rfl))) (by decide) (show parseFieldDescriptor "Lcom/example/markupkeel/markupkeel/validator/TestSuite$Verdict;" = some (.object "com/example/markupkeel/markupkeel/validator/TestSuite$Verdict") from by decide +kernel) (show parseFieldDescriptor "Ljava/lang/String;" = some (.object "java/lang/String") from by decide +kernel))))
  have F42 := (F27.other W34 (Or.inr (slot_ne (Or.inr (hw _ (List.mem_of_getElem? (i := 74) rfl))) (Or.inr (hw _ (List.mem_of_getElem? (i := 68) rfl))) (by decide) (show parseFieldDescriptor "Lcom/example/markupkeel/markupkeel/validator/TestSuite$Verdict;" = some (.object "com/example/markupkeel/markupkeel/validator/TestSuite$Verdict") from by decide +kernel) (show parseFieldDescriptor "Ljava/lang/String;" = some (.object "java/lang/String") from by decide +kernel))))
  have Z43 := Nat.le_trans Z28 (Keep.of_wr W34).1
  have K44 := K29.wr W34 (Or.inl (List.mem_of_getElem? (i := 0) rfl))
  refine own_bk (S' := (T30.setTop (mkF m 14 #[rv a, rv x0, rv x1, rv x2, rv x3, rv x4] []))) st35 ?_
  refine own_bk (S' := (T30.setTop (mkF m 15 #[rv a, rv x0, rv x1, rv x2, rv x3, rv x4] [(.ref a)]))) (fun t_ kont => XS.aloadN X32.here hx rfl (hb hby d12_14) rfl rfl kont) ?_
  refine own_bk (S' := (T30.setTop (mkF m 16 #[rv a, rv x0, rv x1, rv x2, rv x3, rv x4] [(.ref x2), (.ref a)]))) (fun t_ kont => XS.aloadN X32.here hx rfl (hb hby d12_15) rfl rfl kont) ?_
  obtain ⟨T45, h46, X47, e48, W49, st50⟩ := putF X32 hx hZ hown (host := "") (Or.inl (hw _ (List.mem_of_getElem? (i := 69) rfl))) Via.refl e33 F40 E37 (Or.inr ⟨(hw _ (List.mem_of_getElem? (i := 70) rfl)), rfl, hnm⟩) (hw _ (List.mem_of_getElem? (i := 54) rfl)) (ty := (.object "java/lang/String")) (by decide +kernel) rfl rfl (g := (mkF m 16 #[rv a, rv x0, rv x1, rv x2, rv x3, rv x4] [(.ref x2), (.ref a)])) rfl rfl (hb hby d12_16)
  have N51 := Fr.snoc X47 N36 ag
  have E52 := (E37.wr W49)
  have F53 := (F38.other W49 (Or.inr (slot_ne (Or.inr (hw _ (List.mem_of_getElem? (i := 66) rfl))) (Or.inr (hw _ (List.mem_of_getElem? (i := 70) rfl))) (by decide) (show parseFieldDescriptor "Ljava/lang/String;" = some (.object "java/lang/String") from by decide +kernel) (show parseFieldDescriptor "Ljava/lang/String;" = some (.object "java/lang/String") from by decide +kernel))))
  have F54 := (F39.other W49 (Or.inr (slot_ne (Or.inr (hw _ (List.mem_of_getElem? (i := 68) rfl))) (Or.inr (hw _ (List.mem_of_getElem? (i := 70) rfl))) (by decide) (show parseFieldDescriptor "Ljava/lang/String;" = some (.object "java/lang/String") from by decide +kernel) (show parseFieldDescriptor "Ljava/lang/String;" = some (.object "java/lang/String") from by decide +kernel))))
  have F55 := (F40.same W49)
  have F56 := (F41.other W49 (Or.inr (slot_ne (Or.inr (hw _ (List.mem_of_getElem? (i := 72) rfl))) (Or.inr (hw _ (List.mem_of_getElem? (i := 70) rfl))) (by decide) (show parseFieldDescriptor "Lcom/example/markupkeel/markupkeel/validator/TestSuite$Verdict;" = some (.object "com/example/markupkeel/markupkeel/validator/TestSuite$Verdict") from by decide +kernel) (show parseFieldDescriptor "Ljava/lang/String;" = some (.object "java/lang/String") from by decide +kernel))))
  have F57 := (F42.other W49 (Or.inr (slot_ne (Or.inr (hw _ (List.mem_of_getElem? (i := 74) rfl))) (Or.inr (hw _ (List.mem_of_getElem? (i := 70) rfl))) (by decide) (show parseFieldDescriptor "Lcom/example/markupkeel/markupkeel/validator/TestSuite$Verdict;" = some (.object "com/example/markupkeel/markupkeel/validator/TestSuite$Verdict") from by decide +kernel) (show parseFieldDescriptor "Ljava/lang/String;" = some (.object "java/lang/String") from by decide +kernel))))
  have Z58 := Nat.le_trans Z43 (Keep.of_wr W49).1
  have K59 := K44.wr W49 (Or.inl (List.mem_of_getElem? (i := 0) rfl))
  refine own_bk (S' := (T45.setTop (mkF m 19 #[rv a, rv x0, rv x1, rv x2, rv x3, rv x4] []))) st50 ?_
  refine own_bk (S' := (T45.setTop (mkF m 20 #[rv a, rv x0, rv x1, rv x2, rv x3, rv x4] [(.ref a)]))) (fun t_ kont => XS.aloadN X47.here hx rfl (hb hby d12_19) rfl rfl kont) ?_
  refine own_bk (S' := (T45.setTop (mkF m 22 #[rv a, rv x0, rv x1, rv x2, rv x3, rv x4] [(.ref x3), (.ref a)]))) (fun t_ kont => XS.aload X47.here hx rfl (hb hby d12_20) rfl rfl kont) ?_
  obtain ⟨T60, h61, X62, e63, W64, st65⟩ := putF X47 hx hZ hown (host := "") (Or.inl (hw _ (List.mem_of_getElem? (i := 71) rfl))) Via.refl e48 F56 E52 (Or.inr ⟨(hw _ (List.mem_of_getElem? (i := 72) rfl)), rfl, hnm⟩) (hw _ (List.mem_of_getElem? (i := 54) rfl)) (ty := (.object "com/example/markupkeel/markupkeel/validator/TestSuite$Verdict")) (by decide +kernel) rfl rfl (g := (mkF m 22 #[rv a, rv x0, rv x1, rv x2, rv x3, rv x4] [(.ref x3), (.ref a)])) rfl rfl (hb hby d12_22)
  have N66 := Fr.snoc X62 N51 ag
  have E67 := (E52.wr W64)
  have F68 := (F53.other W64 (Or.inr (slot_ne (Or.inr (hw _ (List.mem_of_getElem? (i := 66) rfl))) (Or.inr (hw _ (List.mem_of_getElem? (i := 72) rfl))) (by decide) (show parseFieldDescriptor "Ljava/lang/String;" = some (.object "java/lang/String") from by decide +kernel) (show parseFieldDescriptor "Lcom/example/markupkeel/markupkeel/validator/TestSuite$Verdict;" = some (.object "com/example/markupkeel/markupkeel/validator/TestSuite$Verdict") from by decide +kernel))))
  have F69 := (F54.other W64 (Or.inr (slot_ne (Or.inr (hw _ (List.mem_of_getElem? (i := 68) rfl))) (Or.inr (hw _ (List.mem_of_getElem? (i := 72) rfl))) (by decide) (show parseFieldDescriptor "Ljava/lang/String;" = some (.object "java/lang/String") from by decide +kernel) (show parseFieldDescriptor "Lcom/example/markupkeel/markupkeel/validator/TestSuite$Verdict;" = some (.object "com/example/markupkeel/markupkeel/validator/TestSuite$Verdict") from by decide +kernel))))
  have F70 := (F55.other W64 (Or.inr (slot_ne (Or.inr (hw _ (List.mem_of_getElem? (i := 70) rfl))) (Or.inr (hw _ (List.mem_of_getElem? (i := 72) rfl))) (by decide) (show parseFieldDescriptor "Ljava/lang/String;" = some (.object "java/lang/String") from by decide +kernel) (show parseFieldDescriptor "Lcom/example/markupkeel/markupkeel/validator/TestSuite$Verdict;" = some (.object "com/example/markupkeel/markupkeel/validator/TestSuite$Verdict") from by decide +kernel))))
  have F71 := (F56.same W64)
  have F72 := (F57.other W64 (Or.inr (slot_ne (Or.inr (hw _ (List.mem_of_getElem? (i := 74) rfl))) (Or.inr (hw _ (List.mem_of_getElem? (i := 72) rfl))) (by decide) (show parseFieldDescriptor "Lcom/example/markupkeel/markupkeel/validator/TestSuite$Verdict;" = some (.object "com/example/markupkeel/markupkeel/validator/TestSuite$Verdict") from by decide +kernel) (show parseFieldDescriptor "Lcom/example/markupkeel/markupkeel/validator/TestSuite$Verdict;" = some (.object "com/example/markupkeel/markupkeel/validator/TestSuite$Verdict") from by decide +kernel))))
  have Z73 := Nat.le_trans Z58 (Keep.of_wr W64).1
  have K74 := K59.wr W64 (Or.inl (List.mem_of_getElem? (i := 0) rfl))
  refine own_bk (S' := (T60.setTop (mkF m 25 #[rv a, rv x0, rv x1, rv x2, rv x3, rv x4] []))) st65 ?_
  refine own_bk (S' := (T60.setTop (mkF m 26 #[rv a, rv x0, rv x1, rv x2, rv x3, rv x4] [(.ref a)]))) (fun t_ kont => XS.aloadN X62.here hx rfl (hb hby d12_25) rfl rfl kont) ?_
  refine own_bk (S' := (T60.setTop (mkF m 28 #[rv a, rv x0, rv x1, rv x2, rv x3, rv x4] [(.ref x4), (.ref a)]))) (fun t_ kont => XS.aload X62.here hx rfl (hb hby d12_26) rfl rfl kont) ?_
  obtain ⟨T75, h76, X77, e78, W79, st80⟩ := putF X62 hx hZ hown (host := "") (Or.inl (hw _ (List.mem_of_getElem? (i := 73) rfl))) Via.refl e63 F72 E67 (Or.inr ⟨(hw _ (List.mem_of_getElem? (i := 74) rfl)), rfl, hnm⟩) (hw _ (List.mem_of_getElem? (i := 54) rfl)) (ty := (.object "com/example/markupkeel/markupkeel/validator/TestSuite$Verdict")) (by decide +kernel) rfl rfl (g := (mkF m 28 #[rv a, rv x0, rv x1, rv x2, rv x3, rv x4] [(.ref x4), (.ref a)])) rfl rfl (hb hby d12_28)
  have N81 := Fr.snoc X77 N66 ag
  have E82 := (E67.wr W79)
  have F83 := (F68.other W79 (Or.inr (slot_ne (Or.inr (hw _ (List.mem_of_getElem? (i := 66) rfl))) (Or.inr (hw _ (List.mem_of_getElem? (i := 74) rfl))) (by decide) (show parseFieldDescriptor "Ljava/lang/String;" = some (.object "java/lang/String") from by decide +kernel) (show parseFieldDescriptor "Lcom/example/markupkeel/markupkeel/validator/TestSuite$Verdict;" = some (.object "com/example/markupkeel/markupkeel/validator/TestSuite$Verdict") from by decide +kernel))))
  have F84 := (F69.other W79 (Or.inr (slot_ne (Or.inr (hw _ (List.mem_of_getElem? (i := 68) rfl))) (Or.inr (hw _ (List.mem_of_getElem? (i := 74) rfl))) (by decide) (show parseFieldDescriptor "Ljava/lang/String;" = some (.object "java/lang/String") from by decide +kernel) (show parseFieldDescriptor "Lcom/example/markupkeel/markupkeel/validator/TestSuite$Verdict;" = some (.object "com/example/markupkeel/markupkeel/validator/TestSuite$Verdict") from by decide +kernel))))
  have F85 := (F70.other W79 (Or.inr (slot_ne (Or.inr (hw _ (List.mem_of_getElem? (i := 70) rfl))) (Or.inr (hw _ (List.mem_of_getElem? (i := 74) rfl))) (by decide) (show parseFieldDescriptor "Ljava/lang/String;" = some (.object "java/lang/String") from by decide +kernel) (show parseFieldDescriptor "Lcom/example/markupkeel/markupkeel/validator/TestSuite$Verdict;" = some (.object "com/example/markupkeel/markupkeel/validator/TestSuite$Verdict") from by decide +kernel))))
  have F86 := (F71.other W79 (Or.inr (slot_ne (Or.inr (hw _ (List.mem_of_getElem? (i := 72) rfl))) (Or.inr (hw _ (List.mem_of_getElem? (i := 74) rfl))) (by decide) (show parseFieldDescriptor "Lcom/example/markupkeel/markupkeel/validator/TestSuite$Verdict;" = some (.object "com/example/markupkeel/markupkeel/validator/TestSuite$Verdict") from by decide +kernel) (show parseFieldDescriptor "Lcom/example/markupkeel/markupkeel/validator/TestSuite$Verdict;" = some (.object "com/example/markupkeel/markupkeel/validator/TestSuite$Verdict") from by decide +kernel))))
  have F87 := (F72.same W79)
  have Z88 := Nat.le_trans Z73 (Keep.of_wr W79).1
  have K89 := K74.wr W79 (Or.inl (List.mem_of_getElem? (i := 0) rfl))
  refine own_bk (S' := (T75.setTop (mkF m 31 #[rv a, rv x0, rv x1, rv x2, rv x3, rv x4] []))) st80 ?_
  exact own_retV X77 hx hlk Bd.returns (hb hby d12_31) (by rw [e78]; exact ⟨rfl, N81, K89, F86, F87⟩) (by decide) (by decide)
theorem d14_0 : decode prog_189_method_2_code 0 = .ok (.aload_n 0, 1) := by decide +kernel
theorem d14_1 : decode prog_189_method_2_code 1 = .ok (.getfield 19, 3) := by decide +kernel
theorem d14_4 : decode prog_189_method_2_code 4 = .ok (.aload_n 0, 1) := by decide +kernel
theorem d14_5 : decode prog_189_method_2_code 5 = .ok (.getfield 23, 3) := by decide +kernel
theorem d14_8 : decode prog_189_method_2_code 8 = .ok (.if_acmp .ne 7, 3) := by decide +kernel
theorem d14_11 : decode prog_189_method_2_code 11 = .ok (.iconst 1, 1) := by decide +kernel
theorem d14_12 : decode prog_189_method_2_code 12 = .ok (.goto 4, 3) := by decide +kernel
theorem d14_15 : decode prog_189_method_2_code 15 = .ok (.iconst 0, 1) := by decide +kernel
theorem d14_16 : decode prog_189_method_2_code 16 = .ok (.ireturn, 1) := by decide +kernel
theorem ef_rm14 (m : MethodId) (x0 : Addr) : entryFrame m #[(.ref x0)] 1 = mkF m 0 #[.val (.ref x0)] [] := by first | (simp [entryFrame, mkF, argsToLocals, Value.category, maxLocals]; done) | rfl
def Q_rm14 (Z : State) (a xe xa : Addr) (b : Int32) (h0 : Heap) (n0 : Nat) (v : Option Value) (h : Heap) (L : List Loc) : Prop := v = some (.int b) ∧ Fr n0 L ∧ h = h0
set_option maxRecDepth 65536 in
set_option maxHeartbeats 40000000 in
theorem rm14 (l : Launch) (Z : State) (a0 : Array Value) (hw : ∀ d ∈ tables_1, d.before a0 Z = true) (ws : List Jvm.Cond) (a xe xa : Addr) (b : Int32) (h0 : Heap) (n0 : Nat) (Z0 : n0 ≤ h0.size) (F0 : Fld Z h0 a "com/example/markupkeel/markupkeel/validator/TestSuite$Outcome" "expected" "Lcom/example/markupkeel/markupkeel/validator/TestSuite$Verdict;" (.ref xe)) (F1 : Fld Z h0 a "com/example/markupkeel/markupkeel/validator/TestSuite$Outcome" "actual" "Lcom/example/markupkeel/markupkeel/validator/TestSuite$Verdict;" (.ref xa)) (hv : (if xe = xa then 1 else 0 : Int32) = b) :
    MetFree l (⟨"com/example/markupkeel/markupkeel/validator/TestSuite$Outcome", "agrees", "()Z"⟩ : MethodName) (head1 (Jvm.Cond.code (⟨"com/example/markupkeel/markupkeel/validator/TestSuite$Outcome", "agrees", "()Z"⟩ : MethodName) prog_189_method_2_code 1 (some .boolean) :: ws) ({ frames := 0, cells := 0, slots := 0, locals := 0 } : Room)) (fun as_ U_ => as_ = #[(.ref a)] ∧ Z.Warmed39 U_.vm ∧ U_.heap = h0) (fun _ _ _ _ _ => True) (fun _ U_ o_ U2_ => ∃ v_ L_, o_ = .returned v_ ∧ (Q_rm14 Z a xe xa b h0 n0) v_ U2_.heap L_ ∧ FrameEnd U_ o_ U2_ L_ ({ frames := 0, cells := 0, slots := 0, locals := 0 } : Room).cells ({ frames := 0, cells := 0, slots := 0, locals := 0 } : Room).slots) := by
  refine MetFree.of_bodySF (plainFor_of_name (by first | (simp [plainName, overriddenIn]; done) | decide +kernel : plainName "com/example/markupkeel/markupkeel/validator/TestSuite$Outcome" = true)) hisR ?_
  intro p e s m args below meth c s₁ Bd hml0 hP hK
  obtain ⟨rfl, hZ, hh⟩ := hP
  have hx := Bd.exec
  have hby := Bd.bytes
  have hlk := Bd.notSynchronized
  have hml : c.maxLocals = 1 := hml0
  have hown : s.vm.findClass "com/example/markupkeel/markupkeel/validator/TestSuite$Outcome" = some m.cls := findClass_of_methodNamed Bd.named
  have hnm := (name_of_methodNamed Bd.named Bd.method).1
  have X0 : Stand p l e ({ frames := 0, cells := 0, slots := 0, locals := 0 } : Room) s m #[(.ref a)] below meth c s₁ [] 0 0 := Stand.of_body Bd
  have e0 : s₁.heap = h0 := by rw [← hh, Bd.state]; rfl
  have N0 := Fr.nil n0
  show own_Go p e below (own_R s below (Q_rm14 Z a xe xa b h0 n0) ({ frames := 0, cells := 0, slots := 0, locals := 0 } : Room).cells ({ frames := 0, cells := 0, slots := 0, locals := 0 } : Room).slots) (s₁.setTop (entryFrame m #[(.ref a)] 1))
  refine own_bk (S' := (s₁.setTop (mkF m 0 #[rv a] []))) (fun t_ kont => castTop (ef_rm14 m (a)) kont) ?_
  refine own_bk (S' := (s₁.setTop (mkF m 1 #[rv a] [(.ref a)]))) (fun t_ kont => XS.aloadN X0.here hx rfl (hb hby d14_0) rfl rfl kont) ?_
  obtain ⟨T1, X2, e3, st4⟩ := getF X0 hx hZ hown (host := "") (Or.inl (hw _ (List.mem_of_getElem? (i := 71) rfl))) Via.refl e0 F0 (g := (mkF m 1 #[rv a] [(.ref a)])) rfl rfl (hb hby d14_1)
  refine own_bk (S' := (T1.setTop (mkF m 4 #[rv a] [(.ref xe)]))) st4 ?_
  refine own_bk (S' := (T1.setTop (mkF m 5 #[rv a] [(.ref a), (.ref xe)]))) (fun t_ kont => XS.aloadN X2.here hx rfl (hb hby d14_4) rfl rfl kont) ?_
  obtain ⟨T5, X6, e7, st8⟩ := getF X2 hx hZ hown (host := "") (Or.inl (hw _ (List.mem_of_getElem? (i := 73) rfl))) Via.refl e3 F1 (g := (mkF m 5 #[rv a] [(.ref a), (.ref xe)])) rfl rfl (hb hby d14_5)
  refine own_bk (S' := (T5.setTop (mkF m 8 #[rv a] [(.ref xa), (.ref xe)]))) st8 ?_
  by_cases hc9 : xe = xa
  · refine own_bk (S' := (T5.setTop (mkF m 11 #[rv a] []))) (fun t_ kont => Jvm.RoadKit.acmp (g := (mkF m 8 #[rv a] [(.ref xa), (.ref xe)])) X6 hx rfl rfl rfl (pc0 := 8) (pc' := 11) (same := true) rfl (hb hby d14_8) rfl (decide_eq_true (congrArg _ hc9)) (by decide) (by decide) kont) ?_
    refine own_bk (S' := (T5.setTop (mkF m 12 #[rv a] [(.int (1 : Int32))]))) (fun t_ kont => XS.iconst X6.here hx rfl (hb hby d14_11) kont) ?_
    refine own_bk (S' := (T5.setTop (mkF m 16 #[rv a] [(.int (1 : Int32))]))) (fun t_ kont => XS.goto X6.here hx rfl (pc0 := 12) (pc' := 16) rfl (hb hby d14_12) (by decide) (by decide) kont) ?_
    exact own_retN X6 hx hlk (t := .boolean) (w := (1 : Int32)) Bd.returns (by simp) (hb hby d14_16) rfl ⟨by rw [← hv]; simp [hc9], N0, e7⟩ (by decide) (by decide)
  · refine own_bk (S' := (T5.setTop (mkF m 15 #[rv a] []))) (fun t_ kont => Jvm.RoadKit.acmp (g := (mkF m 8 #[rv a] [(.ref xa), (.ref xe)])) X6 hx rfl rfl rfl (pc0 := 8) (pc' := 15) (same := false) rfl (hb hby d14_8) rfl (decide_eq_false (fun q => hc9 (Value.ref.inj q))) (by decide) (by decide) kont) ?_
    refine own_bk (S' := (T5.setTop (mkF m 16 #[rv a] [(.int (0 : Int32))]))) (fun t_ kont => XS.iconst X6.here hx rfl (hb hby d14_15) kont) ?_
    exact own_retN X6 hx hlk (t := .boolean) (w := (0 : Int32)) Bd.returns (by simp) (hb hby d14_16) rfl ⟨by rw [← hv]; simp [hc9], N0, e7⟩ (by decide) (by decide)
theorem ef_rm0 (m : MethodId) (x0 : Int32) (x1 : Int32) (x2 : Int32) (x3 : Int32) (x4 : Int32) : entryFrame m #[(.int x0), (.int x1), (.int x2), (.int x3), (.int x4)] maxLocals = mkF m 0 #[.val (.int x0), .val (.int x1), .val (.int x2), .val (.int x3), .val (.int x4), .unset, .unset, .unset, .unset, .unset, .unset, .unset, .unset, .unset, .unset, .unset] [] := by first | (simp [entryFrame, mkF, argsToLocals, Value.category, maxLocals]; done) | rfl
def Q_rm0 (Z : State) (v0 v1 v2 v3 v4 cz : Int32) (r_VALID r_INVALID r_NOT_SUPPORTED r_NOT_CHECKED : Addr) (h0 : Heap) (n0 : Nat) (v : Option Value) (h : Heap) (L : List Loc) : Prop := v = some (.int 1) ∧ Fr n0 L
set_option maxRecDepth 65536 in
set_option maxHeartbeats 40000000 in
theorem rm0 (l : Launch) (Z : State) (a0 : Array Value) (hw : ∀ d ∈ tables_1, d.before a0 Z = true) (ws : List Jvm.Cond) (v0 v1 v2 v3 v4 cz : Int32) (r_VALID r_INVALID r_NOT_SUPPORTED r_NOT_CHECKED : Addr) (h0 : Heap) (n0 : Nat) (Z0 : n0 ≤ h0.size) (O : Old Z n0 h0) (SC : Sta Z Z.heap "java/lang/String" "COMPACT_STRINGS" "Z" (.int cz)) (hcz : ¬ cz = (0 : Int32)) (G_VALID : own_E Z Z.heap r_VALID "com/example/markupkeel/markupkeel/validator/TestSuite$Verdict" "VALID" "Lcom/example/markupkeel/markupkeel/validator/TestSuite$Verdict;" 0) (G_INVALID : own_E Z Z.heap r_INVALID "com/example/markupkeel/markupkeel/validator/TestSuite$Verdict" "INVALID" "Lcom/example/markupkeel/markupkeel/validator/TestSuite$Verdict;" 1) (G_NOT_SUPPORTED : own_E Z Z.heap r_NOT_SUPPORTED "com/example/markupkeel/markupkeel/validator/TestSuite$Verdict" "NOT_SUPPORTED" "Lcom/example/markupkeel/markupkeel/validator/TestSuite$Verdict;" 2) (G_NOT_CHECKED : own_E Z Z.heap r_NOT_CHECKED "com/example/markupkeel/markupkeel/validator/TestSuite$Verdict" "NOT_CHECKED" "Lcom/example/markupkeel/markupkeel/validator/TestSuite$Verdict;" 3) :
    MetFree l x (head1 (Jvm.Cond.code x code maxLocals ret :: ws) room_1) (fun as_ U_ => as_ = #[(.int v0), (.int v1), (.int v2), (.int v3), (.int v4)] ∧ Z.Warmed39 U_.vm ∧ U_.heap = h0) (fun _ _ _ _ _ => True) (fun _ U_ o_ U2_ => ∃ v_ L_, o_ = .returned v_ ∧ (Q_rm0 Z v0 v1 v2 v3 v4 cz r_VALID r_INVALID r_NOT_SUPPORTED r_NOT_CHECKED h0 n0) v_ U2_.heap L_ ∧ FrameEnd U_ o_ U2_ L_ room_1.cells room_1.slots) := by
  refine MetFree.of_bodySF (plainFor_of_name (by first | (simp [plainName, overriddenIn]; done) | decide +kernel : plainName "com/example/markupkeel/markupkeel/validator/OutcomeAgreesPinLaw" = true)) hisR ?_
  intro p e s m args below meth c s₁ Bd hml0 hP hK
  obtain ⟨rfl, hZ, hh⟩ := hP
  have hx := Bd.exec
  have hby := Bd.bytes
  have hlk := Bd.notSynchronized
  have hml : c.maxLocals = 16 := hml0
  have hown : s.vm.findClass "com/example/markupkeel/markupkeel/validator/OutcomeAgreesPinLaw" = some m.cls := findClass_of_methodNamed Bd.named
  have hnm := (name_of_methodNamed Bd.named Bd.method).1
  have X0 : Stand p l e room_1 s m #[(.int v0), (.int v1), (.int v2), (.int v3), (.int v4)] below meth c s₁ [] 0 0 := Stand.of_body Bd
  have e0 : s₁.heap = h0 := by rw [← hh, Bd.state]; rfl
  have N0 := Fr.nil n0
  show own_Go p e below (own_R s below (Q_rm0 Z v0 v1 v2 v3 v4 cz r_VALID r_INVALID r_NOT_SUPPORTED r_NOT_CHECKED h0 n0) room_1.cells room_1.slots) (s₁.setTop (entryFrame m #[(.int v0), (.int v1), (.int v2), (.int v3), (.int v4)] maxLocals))
  refine own_bk (S' := (s₁.setTop (mkF m 0 #[iv v0, iv v1, iv v2, iv v3, iv v4, .unset, .unset, .unset, .unset, .unset, .unset, .unset, .unset, .unset, .unset, .unset] []))) (fun t_ kont => castTop (ef_rm0 m (v0) (v1) (v2) (v3) (v4)) kont) ?_
  refine own_bk (S' := (s₁.setTop (mkF m 1 #[iv v0, iv v1, iv v2, iv v3, iv v4, .unset, .unset, .unset, .unset, .unset, .unset, .unset, .unset, .unset, .unset, .unset] [(.int v0)]))) (fun t_ kont => XS.iloadN X0.here hx rfl (hb hby at_0) rfl kont) ?_
  refine own_bk (S' := (s₁.setTop (mkF m 2 #[iv v0, iv v1, iv v2, iv v3, iv v4, .unset, .unset, .unset, .unset, .unset, .unset, .unset, .unset, .unset, .unset, .unset] [(.int (3 : Int32)), (.int v0)]))) (fun t_ kont => XS.iconst X0.here hx rfl (hb hby at_1) kont) ?_
  refine own_bk (S' := (s₁.setTop (mkF m 3 #[iv v0, iv v1, iv v2, iv v3, iv v4, .unset, .unset, .unset, .unset, .unset, .unset, .unset, .unset, .unset, .unset, .unset] [(.int (v0 &&& (3 : Int32)))]))) (fun t_ kont => XS.iand X0.here hx rfl (hb hby at_2) rfl kont) ?_
  refine own_bk (S' := (s₁.setTop (mkF m 5 #[iv v0, iv v1, iv v2, iv v3, iv v4, iv (v0 &&& (3 : Int32)), .unset, .unset, .unset, .unset, .unset, .unset, .unset, .unset, .unset, .unset] []))) (fun t_ kont => XS.istore X0.here hx rfl (hb hby at_3) rfl (l' := #[iv v0, iv v1, iv v2, iv v3, iv v4, iv (v0 &&& (3 : Int32)), .unset, .unset, .unset, .unset, .unset, .unset, .unset, .unset, .unset, .unset]) rfl kont) ?_
  refine own_bk (S' := (s₁.setTop (mkF m 6 #[iv v0, iv v1, iv v2, iv v3, iv v4, iv (v0 &&& (3 : Int32)), .unset, .unset, .unset, .unset, .unset, .unset, .unset, .unset, .unset, .unset] [(.int v1)]))) (fun t_ kont => XS.iloadN X0.here hx rfl (hb hby at_5) rfl kont) ?_
  refine own_bk (S' := (s₁.setTop (mkF m 7 #[iv v0, iv v1, iv v2, iv v3, iv v4, iv (v0 &&& (3 : Int32)), .unset, .unset, .unset, .unset, .unset, .unset, .unset, .unset, .unset, .unset] [(.int (3 : Int32)), (.int v1)]))) (fun t_ kont => XS.iconst X0.here hx rfl (hb hby at_6) kont) ?_
  refine own_bk (S' := (s₁.setTop (mkF m 8 #[iv v0, iv v1, iv v2, iv v3, iv v4, iv (v0 &&& (3 : Int32)), .unset, .unset, .unset, .unset, .unset, .unset, .unset, .unset, .unset, .unset] [(.int (v1 &&& (3 : Int32)))]))) (fun t_ kont => XS.iand X0.here hx rfl (hb hby at_7) rfl kont) ?_
  refine own_bk (S' := (s₁.setTop (mkF m 10 #[iv v0, iv v1, iv v2, iv v3, iv v4, iv (v0 &&& (3 : Int32)), iv (v1 &&& (3 : Int32)), .unset, .unset, .unset, .unset, .unset, .unset, .unset, .unset, .unset] []))) (fun t_ kont => XS.istore X0.here hx rfl (hb hby at_8) rfl (l' := #[iv v0, iv v1, iv v2, iv v3, iv v4, iv (v0 &&& (3 : Int32)), iv (v1 &&& (3 : Int32)), .unset, .unset, .unset, .unset, .unset, .unset, .unset, .unset, .unset]) rfl kont) ?_
  refine own_bk (S' := (s₁.setTop (mkF m 11 #[iv v0, iv v1, iv v2, iv v3, iv v4, iv (v0 &&& (3 : Int32)), iv (v1 &&& (3 : Int32)), .unset, .unset, .unset, .unset, .unset, .unset, .unset, .unset, .unset] [(.int v2)]))) (fun t_ kont => XS.iloadN X0.here hx rfl (hb hby at_10) rfl kont) ?_
  refine own_bk (S' := (s₁.setTop (mkF m 14 #[iv v0, iv v1, iv v2, iv v3, iv v4, iv (v0 &&& (3 : Int32)), iv (v1 &&& (3 : Int32)), .unset, .unset, .unset, .unset, .unset, .unset, .unset, .unset, .unset] [(.int (255 : Int32)), (.int v2)]))) (fun t_ kont => XS.sipush X0.here hx rfl (hb hby at_11) kont) ?_
  refine own_bk (S' := (s₁.setTop (mkF m 15 #[iv v0, iv v1, iv v2, iv v3, iv v4, iv (v0 &&& (3 : Int32)), iv (v1 &&& (3 : Int32)), .unset, .unset, .unset, .unset, .unset, .unset, .unset, .unset, .unset] [(.int (v2 &&& (255 : Int32)))]))) (fun t_ kont => XS.iand X0.here hx rfl (hb hby at_14) rfl kont) ?_
  refine own_bk (S' := (s₁.setTop (mkF m 16 #[iv v0, iv v1, iv v2, iv v3, iv v4, iv (v0 &&& (3 : Int32)), iv (v1 &&& (3 : Int32)), .unset, .unset, .unset, .unset, .unset, .unset, .unset, .unset, .unset] [(.int ((v2 &&& (255 : Int32)).toUInt32.toUInt16.toUInt32.toInt32))]))) (fun t_ kont => XS.i2c X0.here hx rfl (hb hby at_15) rfl kont) ?_
  obtain ⟨_, _, ⟨T1, L2, k3, n4⟩, -, X5, ⟨Lc6, hQ7, l8, y9, z10⟩, st11⟩ := Jvm.LawKit.callS X0 hx (y := (⟨"java/lang/String", "valueOf", "(C)Ljava/lang/String;"⟩ : MethodName)) hown (mvT hZ (hw _ (List.mem_of_getElem? (i := 0) rfl))) (mvT hZ (hw _ (List.mem_of_getElem? (i := 1) rfl))) (mvT hZ (hw _ (List.mem_of_getElem? (i := 2) rfl))) (mvT hZ (hw _ (List.mem_of_getElem? (i := 3) rfl))) (by decide) (backOf (W := 0) (rmVal l Z a0 hw [] ((v2 &&& (255 : Int32)).toUInt32.toUInt16.toUInt32.toInt32) cz h0 n0 Z0 O (own_c255 v2).2 SC hcz) hZ (hw _ (List.mem_of_getElem? (i := 3) rfl)) (hw _ (List.mem_of_getElem? (i := 2) rfl)) (by decide) (by decide)) (g := (mkF m 16 #[iv v0, iv v1, iv v2, iv v3, iv v4, iv (v0 &&& (3 : Int32)), iv (v1 &&& (3 : Int32)), .unset, .unset, .unset, .unset, .unset, .unset, .unset, .unset, .unset] [(.int ((v2 &&& (255 : Int32)).toUInt32.toUInt16.toUInt32.toInt32))])) rfl (by rw [hml]; rfl) (argsL := [(.int ((v2 &&& (255 : Int32)).toUInt32.toUInt16.toUInt32.toInt32))]) (rest := []) (lenOf (by decide +kernel : parseMethodDescriptor "(C)Ljava/lang/String;" = some ⟨[.char], some (.object "java/lang/String")⟩) rfl) rfl (by show 2 * 0 + _ ≤ _; exact Nat.le_of_eq rfl) (hb hby at_16) (fun _ _ => ⟨rfl, e0, (by decide : 0 + 2 ≤ _), (by decide : 0 + 5 ≤ _)⟩)
  dsimp only [Pt.U, Pt.locs, Pt.cells, Pt.slots] at X5 l8 y9 z10 st11 hQ7
  subst l8 y9 z10
  obtain ⟨N12, OsA, ZsA, sA, rfl⟩ := hQ7
  have N14 := Fr.app N0 N12
  refine own_bk (S' := (T1.setTop (mkF m 19 #[iv v0, iv v1, iv v2, iv v3, iv v4, iv (v0 &&& (3 : Int32)), iv (v1 &&& (3 : Int32)), .unset, .unset, .unset, .unset, .unset, .unset, .unset, .unset, .unset] [(.ref sA)]))) st11 ?_
  refine own_bk (S' := (T1.setTop (mkF m 21 #[iv v0, iv v1, iv v2, iv v3, iv v4, iv (v0 &&& (3 : Int32)), iv (v1 &&& (3 : Int32)), rv sA, .unset, .unset, .unset, .unset, .unset, .unset, .unset, .unset] []))) (fun t_ kont => XS.astore X5.here hx rfl (hb hby at_19) rfl rfl (l' := #[iv v0, iv v1, iv v2, iv v3, iv v4, iv (v0 &&& (3 : Int32)), iv (v1 &&& (3 : Int32)), rv sA, .unset, .unset, .unset, .unset, .unset, .unset, .unset, .unset]) rfl kont) ?_
  refine own_bk (S' := (T1.setTop (mkF m 22 #[iv v0, iv v1, iv v2, iv v3, iv v4, iv (v0 &&& (3 : Int32)), iv (v1 &&& (3 : Int32)), rv sA, .unset, .unset, .unset, .unset, .unset, .unset, .unset, .unset] [(.int (2 : Int32))]))) (fun t_ kont => XS.iconst X5.here hx rfl (hb hby at_21) kont) ?_
  obtain ⟨T15, h16, k17, X18, e19, E20, A21, st22⟩ := newP X5 hx hZ (hw _ (List.mem_of_getElem? (i := 26) rfl)) rfl (g := (mkF m 22 #[iv v0, iv v1, iv v2, iv v3, iv v4, iv (v0 &&& (3 : Int32)), iv (v1 &&& (3 : Int32)), rv sA, .unset, .unset, .unset, .unset, .unset, .unset, .unset, .unset] [(.int (2 : Int32))])) rfl (hb hby at_22) rfl (by decide : ¬ ((2 : Int32) < (0 : Int32))) (cap := 2) (by decide : (2 : Int32).toNatClampNeg ≤ 2) (by decide) (by decide) (by decide)
  obtain ⟨a23, g24⟩ : ∃ z, z = T1.heap.size := ⟨_, rfl⟩
  rw [← g24] at A21 st22
  have ag26 : n0 ≤ a23 := Nat.le_trans ZsA (Nat.le_of_eq g24.symm)
  have Z27 := Nat.le_trans ZsA E20.1
  have O28 := OsA.ext E20
  have V25 : Arv Z h16 a23 k17 .char (2 : Int32) [] (.int (0 : Int32)) := (Arv.new A21 (by decide : ¬ ((2 : Int32) < (0 : Int32))))
  have V29 : Arv Z h16 a23 k17 .char (2 : Int32) [(.int (0 : Int32)), (.int (0 : Int32))] (.int (0 : Int32)) := (V25.pad (pad_rep [] (.int (0 : Int32)) 2))
  refine own_bk (S' := (T15.setTop (mkF m 24 #[iv v0, iv v1, iv v2, iv v3, iv v4, iv (v0 &&& (3 : Int32)), iv (v1 &&& (3 : Int32)), rv sA, .unset, .unset, .unset, .unset, .unset, .unset, .unset, .unset] [(.ref a23)]))) st22 ?_
  refine own_bk (S' := (T15.setTop (mkF m 26 #[iv v0, iv v1, iv v2, iv v3, iv v4, iv (v0 &&& (3 : Int32)), iv (v1 &&& (3 : Int32)), rv sA, rv a23, .unset, .unset, .unset, .unset, .unset, .unset, .unset] []))) (fun t_ kont => XS.astore X18.here hx rfl (hb hby at_24) rfl rfl (l' := #[iv v0, iv v1, iv v2, iv v3, iv v4, iv (v0 &&& (3 : Int32)), iv (v1 &&& (3 : Int32)), rv sA, rv a23, .unset, .unset, .unset, .unset, .unset, .unset, .unset]) rfl kont) ?_
  refine own_bk (S' := (T15.setTop (mkF m 28 #[iv v0, iv v1, iv v2, iv v3, iv v4, iv (v0 &&& (3 : Int32)), iv (v1 &&& (3 : Int32)), rv sA, rv a23, .unset, .unset, .unset, .unset, .unset, .unset, .unset] [(.ref a23)]))) (fun t_ kont => XS.aload X18.here hx rfl (hb hby at_26) rfl rfl kont) ?_
  refine own_bk (S' := (T15.setTop (mkF m 29 #[iv v0, iv v1, iv v2, iv v3, iv v4, iv (v0 &&& (3 : Int32)), iv (v1 &&& (3 : Int32)), rv sA, rv a23, .unset, .unset, .unset, .unset, .unset, .unset, .unset] [(.int (0 : Int32)), (.ref a23)]))) (fun t_ kont => XS.iconst X18.here hx rfl (hb hby at_28) kont) ?_
  refine own_bk (S' := (T15.setTop (mkF m 30 #[iv v0, iv v1, iv v2, iv v3, iv v4, iv (v0 &&& (3 : Int32)), iv (v1 &&& (3 : Int32)), rv sA, rv a23, .unset, .unset, .unset, .unset, .unset, .unset, .unset] [(.int v3), (.int (0 : Int32)), (.ref a23)]))) (fun t_ kont => XS.iloadN X18.here hx rfl (hb hby at_29) rfl kont) ?_
  refine own_bk (S' := (T15.setTop (mkF m 33 #[iv v0, iv v1, iv v2, iv v3, iv v4, iv (v0 &&& (3 : Int32)), iv (v1 &&& (3 : Int32)), rv sA, rv a23, .unset, .unset, .unset, .unset, .unset, .unset, .unset] [(.int (255 : Int32)), (.int v3), (.int (0 : Int32)), (.ref a23)]))) (fun t_ kont => XS.sipush X18.here hx rfl (hb hby at_30) kont) ?_
  refine own_bk (S' := (T15.setTop (mkF m 34 #[iv v0, iv v1, iv v2, iv v3, iv v4, iv (v0 &&& (3 : Int32)), iv (v1 &&& (3 : Int32)), rv sA, rv a23, .unset, .unset, .unset, .unset, .unset, .unset, .unset] [(.int (v3 &&& (255 : Int32))), (.int (0 : Int32)), (.ref a23)]))) (fun t_ kont => XS.iand X18.here hx rfl (hb hby at_33) rfl kont) ?_
  refine own_bk (S' := (T15.setTop (mkF m 35 #[iv v0, iv v1, iv v2, iv v3, iv v4, iv (v0 &&& (3 : Int32)), iv (v1 &&& (3 : Int32)), rv sA, rv a23, .unset, .unset, .unset, .unset, .unset, .unset, .unset] [(.int ((v3 &&& (255 : Int32)).toUInt32.toUInt16.toUInt32.toInt32)), (.int (0 : Int32)), (.ref a23)]))) (fun t_ kont => XS.i2c X18.here hx rfl (hb hby at_34) rfl kont) ?_
  obtain ⟨c30, A31, q32, S33, M34, H35, U36⟩ := id V29
  obtain ⟨T37, h38, X39, e40, W41, st42⟩ := stC X18 hx hZ e19 A31 (j := (0 : Int32)) (inb_of S33 ⟨(by decide : ¬ ((0 : Int32) < (0 : Int32))), (by decide : (0 : Int32) < (2 : Int32))⟩) (g := (mkF m 35 #[iv v0, iv v1, iv v2, iv v3, iv v4, iv (v0 &&& (3 : Int32)), iv (v1 &&& (3 : Int32)), rv sA, rv a23, .unset, .unset, .unset, .unset, .unset, .unset, .unset] [(.int ((v3 &&& (255 : Int32)).toUInt32.toUInt16.toUInt32.toInt32)), (.int (0 : Int32)), (.ref a23)])) rfl rfl (hb hby at_35)
  have N43 := Fr.snoc X39 N14 ag26
  have Z44 := Nat.le_trans Z27 (Keep.of_wr W41).1
  have O45 := O28.wr W41 ag26
  have V46 : Arv Z h38 a23 k17 .char (2 : Int32) [(.int (nar .char ((v3 &&& (255 : Int32)).toUInt32.toUInt16.toUInt32.toInt32))), (.int (0 : Int32))] (.int (0 : Int32)) := (Arv.set A31 q32 S33 M34 H35 U36 (fits_nar_char _) W41 0 rfl (Nat.le_of_ble_eq_true rfl))
  refine own_bk (S' := (T37.setTop (mkF m 36 #[iv v0, iv v1, iv v2, iv v3, iv v4, iv (v0 &&& (3 : Int32)), iv (v1 &&& (3 : Int32)), rv sA, rv a23, .unset, .unset, .unset, .unset, .unset, .unset, .unset] []))) st42 ?_
  refine own_bk (S' := (T37.setTop (mkF m 38 #[iv v0, iv v1, iv v2, iv v3, iv v4, iv (v0 &&& (3 : Int32)), iv (v1 &&& (3 : Int32)), rv sA, rv a23, .unset, .unset, .unset, .unset, .unset, .unset, .unset] [(.ref a23)]))) (fun t_ kont => XS.aload X39.here hx rfl (hb hby at_36) rfl rfl kont) ?_
  refine own_bk (S' := (T37.setTop (mkF m 39 #[iv v0, iv v1, iv v2, iv v3, iv v4, iv (v0 &&& (3 : Int32)), iv (v1 &&& (3 : Int32)), rv sA, rv a23, .unset, .unset, .unset, .unset, .unset, .unset, .unset] [(.int (1 : Int32)), (.ref a23)]))) (fun t_ kont => XS.iconst X39.here hx rfl (hb hby at_38) kont) ?_
  refine own_bk (S' := (T37.setTop (mkF m 40 #[iv v0, iv v1, iv v2, iv v3, iv v4, iv (v0 &&& (3 : Int32)), iv (v1 &&& (3 : Int32)), rv sA, rv a23, .unset, .unset, .unset, .unset, .unset, .unset, .unset] [(.int v3), (.int (1 : Int32)), (.ref a23)]))) (fun t_ kont => XS.iloadN X39.here hx rfl (hb hby at_39) rfl kont) ?_
  refine own_bk (S' := (T37.setTop (mkF m 42 #[iv v0, iv v1, iv v2, iv v3, iv v4, iv (v0 &&& (3 : Int32)), iv (v1 &&& (3 : Int32)), rv sA, rv a23, .unset, .unset, .unset, .unset, .unset, .unset, .unset] [(.int (8 : Int32)), (.int v3), (.int (1 : Int32)), (.ref a23)]))) (fun t_ kont => XS.bipush X39.here hx rfl (hb hby at_40) kont) ?_
  refine own_bk (S' := (T37.setTop (mkF m 43 #[iv v0, iv v1, iv v2, iv v3, iv v4, iv (v0 &&& (3 : Int32)), iv (v1 &&& (3 : Int32)), rv sA, rv a23, .unset, .unset, .unset, .unset, .unset, .unset, .unset] [(.int (v3.toUInt32 >>> ((8 : Int32) &&& 31).toUInt32).toInt32), (.int (1 : Int32)), (.ref a23)]))) (fun t_ kont => XS.iushr X39.here hx rfl (hb hby at_42) rfl kont) ?_
  refine own_bk (S' := (T37.setTop (mkF m 46 #[iv v0, iv v1, iv v2, iv v3, iv v4, iv (v0 &&& (3 : Int32)), iv (v1 &&& (3 : Int32)), rv sA, rv a23, .unset, .unset, .unset, .unset, .unset, .unset, .unset] [(.int (255 : Int32)), (.int (v3.toUInt32 >>> ((8 : Int32) &&& 31).toUInt32).toInt32), (.int (1 : Int32)), (.ref a23)]))) (fun t_ kont => XS.sipush X39.here hx rfl (hb hby at_43) kont) ?_
  refine own_bk (S' := (T37.setTop (mkF m 47 #[iv v0, iv v1, iv v2, iv v3, iv v4, iv (v0 &&& (3 : Int32)), iv (v1 &&& (3 : Int32)), rv sA, rv a23, .unset, .unset, .unset, .unset, .unset, .unset, .unset] [(.int ((v3.toUInt32 >>> ((8 : Int32) &&& 31).toUInt32).toInt32 &&& (255 : Int32))), (.int (1 : Int32)), (.ref a23)]))) (fun t_ kont => XS.iand X39.here hx rfl (hb hby at_46) rfl kont) ?_
  refine own_bk (S' := (T37.setTop (mkF m 48 #[iv v0, iv v1, iv v2, iv v3, iv v4, iv (v0 &&& (3 : Int32)), iv (v1 &&& (3 : Int32)), rv sA, rv a23, .unset, .unset, .unset, .unset, .unset, .unset, .unset] [(.int (((v3.toUInt32 >>> ((8 : Int32) &&& 31).toUInt32).toInt32 &&& (255 : Int32)).toUInt32.toUInt16.toUInt32.toInt32)), (.int (1 : Int32)), (.ref a23)]))) (fun t_ kont => XS.i2c X39.here hx rfl (hb hby at_47) rfl kont) ?_
  obtain ⟨c47, A48, q49, S50, M51, H52, U53⟩ := id V46
  obtain ⟨T54, h55, X56, e57, W58, st59⟩ := stC X39 hx hZ e40 A48 (j := (1 : Int32)) (inb_of S50 ⟨(by decide : ¬ ((1 : Int32) < (0 : Int32))), (by decide : (1 : Int32) < (2 : Int32))⟩) (g := (mkF m 48 #[iv v0, iv v1, iv v2, iv v3, iv v4, iv (v0 &&& (3 : Int32)), iv (v1 &&& (3 : Int32)), rv sA, rv a23, .unset, .unset, .unset, .unset, .unset, .unset, .unset] [(.int (((v3.toUInt32 >>> ((8 : Int32) &&& 31).toUInt32).toInt32 &&& (255 : Int32)).toUInt32.toUInt16.toUInt32.toInt32)), (.int (1 : Int32)), (.ref a23)])) rfl rfl (hb hby at_48)
  have N60 := Fr.snoc X56 N43 ag26
  have Z61 := Nat.le_trans Z44 (Keep.of_wr W58).1
  have O62 := O45.wr W58 ag26
  have V63 : Arv Z h55 a23 k17 .char (2 : Int32) [(.int (nar .char ((v3 &&& (255 : Int32)).toUInt32.toUInt16.toUInt32.toInt32))), (.int (nar .char (((v3.toUInt32 >>> ((8 : Int32) &&& 31).toUInt32).toInt32 &&& (255 : Int32)).toUInt32.toUInt16.toUInt32.toInt32)))] (.int (0 : Int32)) := (Arv.set A48 q49 S50 M51 H52 U53 (fits_nar_char _) W58 1 rfl (Nat.le_of_ble_eq_true rfl))
  refine own_bk (S' := (T54.setTop (mkF m 49 #[iv v0, iv v1, iv v2, iv v3, iv v4, iv (v0 &&& (3 : Int32)), iv (v1 &&& (3 : Int32)), rv sA, rv a23, .unset, .unset, .unset, .unset, .unset, .unset, .unset] []))) st59 ?_
  obtain ⟨T64, h65, X66, e67, E68, A69, D70, -, st71⟩ := newO X56 hx hZ hown (hw _ (List.mem_of_getElem? (i := 27) rfl)) (hw _ (List.mem_of_getElem? (i := 10) rfl)) (hw _ (List.mem_of_getElem? (i := 2) rfl)) e57 (g := (mkF m 49 #[iv v0, iv v1, iv v2, iv v3, iv v4, iv (v0 &&& (3 : Int32)), iv (v1 &&& (3 : Int32)), rv sA, rv a23, .unset, .unset, .unset, .unset, .unset, .unset, .unset] [])) rfl (hb hby at_49) (by decide) (by decide)
  obtain ⟨a72, g73⟩ : ∃ z, z = h55.size := ⟨_, rfl⟩
  rw [← g73] at A69 D70 st71
  have ne74 : a23 ≠ a72 := Nat.ne_of_lt (Nat.lt_of_lt_of_le V63.lt (Nat.le_of_eq g73.symm))
  have ag75 : n0 ≤ a72 := Nat.le_trans Z61 (Nat.le_of_eq g73.symm)
  have V76 := (V63.ext E68)
  have Z77 := Nat.le_trans Z61 E68.1
  have O78 := O62.ext E68
  have F79 : Fld Z h65 a72 "java/lang/String" "value" "[B" .null := (D70 (Or.inr (hw _ (List.mem_of_getElem? (i := 23) rfl))) (ty := (.array .byte)) (by decide +kernel))
  have F80 : Fld Z h65 a72 "java/lang/String" "coder" "B" (.int (0 : Int32)) := (D70 (Or.inr (hw _ (List.mem_of_getElem? (i := 25) rfl))) (ty := .byte) (by decide +kernel))
  refine own_bk (S' := (T64.setTop (mkF m 52 #[iv v0, iv v1, iv v2, iv v3, iv v4, iv (v0 &&& (3 : Int32)), iv (v1 &&& (3 : Int32)), rv sA, rv a23, .unset, .unset, .unset, .unset, .unset, .unset, .unset] [(.ref a72)]))) st71 ?_
  refine own_bk (S' := (T64.setTop (mkF m 53 #[iv v0, iv v1, iv v2, iv v3, iv v4, iv (v0 &&& (3 : Int32)), iv (v1 &&& (3 : Int32)), rv sA, rv a23, .unset, .unset, .unset, .unset, .unset, .unset, .unset] [(.ref a72), (.ref a72)]))) (fun t_ kont => XS.dup X66.here hx rfl (hb hby at_52) rfl rfl kont) ?_
  refine own_bk (S' := (T64.setTop (mkF m 55 #[iv v0, iv v1, iv v2, iv v3, iv v4, iv (v0 &&& (3 : Int32)), iv (v1 &&& (3 : Int32)), rv sA, rv a23, .unset, .unset, .unset, .unset, .unset, .unset, .unset] [(.ref a23), (.ref a72), (.ref a72)]))) (fun t_ kont => XS.aload X66.here hx rfl (hb hby at_53) rfl rfl kont) ?_
  have hp81 : ∀ c ∈ ([(nar .char ((v3 &&& (255 : Int32)).toUInt32.toUInt16.toUInt32.toInt32)), (nar .char (((v3.toUInt32 >>> ((8 : Int32) &&& 31).toUInt32).toInt32 &&& (255 : Int32)).toUInt32.toUInt16.toUInt32.toInt32))] : List Int32), ¬ c < 0 ∧ ¬ (255 : Int32) < c := by
    intro c hc; simp only [List.mem_cons, List.not_mem_nil, or_false] at hc; rcases hc with rfl | rfl
    · exact own_n255 v3
    · exact own_n255 _
  have hws82 : ∀ d ∈ StrChars.Road.words, d.before a0 Z = true := fun d hd => hw d ((by decide +kernel : ∀ d ∈ StrChars.Road.words, d ∈ tables_1) d hd)
  obtain ⟨_, _, ⟨T93, L94, k95, n96⟩, -, X97, ⟨Lc98, hQ99, l100, y101, z102⟩, st103⟩ := X66.specialBack hx (y := (⟨"java/lang/String", "<init>", "([C)V"⟩ : MethodName)) rfl hown (mvT hZ (hw _ (List.mem_of_getElem? (i := 28) rfl))) (mvT hZ (hw _ (List.mem_of_getElem? (i := 29) rfl))) (mvT hZ (hw _ (List.mem_of_getElem? (i := 30) rfl))) (by decide) (StrChars.Road.backV (W := 1) hZ hws82 (kI := 4) (hw _ (List.mem_of_getElem? (i := 10) rfl)) (cs := ([(nar .char ((v3 &&& (255 : Int32)).toUInt32.toUInt16.toUInt32.toInt32)), (nar .char (((v3.toUInt32 >>> ((8 : Int32) &&& 31).toUInt32).toInt32 &&& (255 : Int32)).toUInt32.toUInt16.toUInt32.toInt32))] : List Int32)) (bs := (([(nar .char ((v3 &&& (255 : Int32)).toUInt32.toUInt16.toUInt32.toInt32)), (nar .char (((v3.toUInt32 >>> ((8 : Int32) &&& 31).toUInt32).toInt32 &&& (255 : Int32)).toUInt32.toUInt16.toUInt32.toInt32))] : List Int32)).map (fun c => c.toInt8.toInt32)) (n := 2) ag75 Z77 A69 F79 F80 V76 (SC.ext O78.2) hcz rfl rfl (by decide) (by decide) hp81 rfl (by decide) (by decide)) (g := (mkF m 55 #[iv v0, iv v1, iv v2, iv v3, iv v4, iv (v0 &&& (3 : Int32)), iv (v1 &&& (3 : Int32)), rv sA, rv a23, .unset, .unset, .unset, .unset, .unset, .unset, .unset] [(.ref a23), (.ref a72), (.ref a72)])) rfl (by rw [hml]; rfl) (Steps.refl _) (a := a72) (argsL := [(.ref a23)]) (rest := [(.ref a72)]) (lenOf (by decide +kernel : parseMethodDescriptor "([C)V" = some ⟨[(.array .char)], none⟩) rfl) rfl (by show 2 * 0 + _ ≤ _; exact Nat.le_of_eq rfl) (hb hby at_55) (fun _ _ => ⟨rfl, e67, (by decide : 4 + 1 ≤ _), (by decide : 11 + 2 ≤ _)⟩)
  dsimp only [Pt.U, Pt.locs, Pt.cells, Pt.slots] at X97 l100 y101 z102 st103 hQ99
  subst l100 y101 z102
  obtain ⟨rfl, N104, K83, g91, g86, t84, kb85, u88, u89, u90, g87, V92⟩ := hQ99
  have N106 := Fr.app N60 N104
  have V107 := (V76.keep K83 (ninS ne74 nin0))
  have E108 := (A69.keep K83)
  have Z109 := Nat.le_trans Z77 K83.1
  have O110 := O78.keep K83 (allS ag75 all0)
  refine own_tr (S' := (T93.setTop (mkF m 58 #[iv v0, iv v1, iv v2, iv v3, iv v4, iv (v0 &&& (3 : Int32)), iv (v1 &&& (3 : Int32)), rv sA, rv a23, .unset, .unset, .unset, .unset, .unset, .unset, .unset] [(.ref a72)]))) st103 ?_
  refine own_bk (S' := (T93.setTop (mkF m 60 #[iv v0, iv v1, iv v2, iv v3, iv v4, iv (v0 &&& (3 : Int32)), iv (v1 &&& (3 : Int32)), rv sA, rv a23, rv a72, .unset, .unset, .unset, .unset, .unset, .unset] []))) (fun t_ kont => XS.astore X97.here hx rfl (hb hby at_58) rfl rfl (l' := #[iv v0, iv v1, iv v2, iv v3, iv v4, iv (v0 &&& (3 : Int32)), iv (v1 &&& (3 : Int32)), rv sA, rv a23, rv a72, .unset, .unset, .unset, .unset, .unset, .unset]) rfl kont) ?_
  refine own_bk (S' := (T93.setTop (mkF m 62 #[iv v0, iv v1, iv v2, iv v3, iv v4, iv (v0 &&& (3 : Int32)), iv (v1 &&& (3 : Int32)), rv sA, rv a23, rv a72, .unset, .unset, .unset, .unset, .unset, .unset] [(.int v4)]))) (fun t_ kont => XS.iload X97.here hx rfl (hb hby at_60) rfl kont) ?_
  refine own_bk (S' := (T93.setTop (mkF m 65 #[iv v0, iv v1, iv v2, iv v3, iv v4, iv (v0 &&& (3 : Int32)), iv (v1 &&& (3 : Int32)), rv sA, rv a23, rv a72, .unset, .unset, .unset, .unset, .unset, .unset] [(.int (255 : Int32)), (.int v4)]))) (fun t_ kont => XS.sipush X97.here hx rfl (hb hby at_62) kont) ?_
  refine own_bk (S' := (T93.setTop (mkF m 66 #[iv v0, iv v1, iv v2, iv v3, iv v4, iv (v0 &&& (3 : Int32)), iv (v1 &&& (3 : Int32)), rv sA, rv a23, rv a72, .unset, .unset, .unset, .unset, .unset, .unset] [(.int (v4 &&& (255 : Int32)))]))) (fun t_ kont => XS.iand X97.here hx rfl (hb hby at_65) rfl kont) ?_
  refine own_bk (S' := (T93.setTop (mkF m 67 #[iv v0, iv v1, iv v2, iv v3, iv v4, iv (v0 &&& (3 : Int32)), iv (v1 &&& (3 : Int32)), rv sA, rv a23, rv a72, .unset, .unset, .unset, .unset, .unset, .unset] [(.int ((v4 &&& (255 : Int32)).toUInt32.toUInt16.toUInt32.toInt32))]))) (fun t_ kont => XS.i2c X97.here hx rfl (hb hby at_66) rfl kont) ?_
  obtain ⟨_, _, ⟨T111, L112, k113, n114⟩, -, X115, ⟨Lc116, hQ117, l118, y119, z120⟩, st121⟩ := Jvm.LawKit.callS X97 hx (y := (⟨"java/lang/String", "valueOf", "(C)Ljava/lang/String;"⟩ : MethodName)) hown (mvT hZ (hw _ (List.mem_of_getElem? (i := 0) rfl))) (mvT hZ (hw _ (List.mem_of_getElem? (i := 1) rfl))) (mvT hZ (hw _ (List.mem_of_getElem? (i := 2) rfl))) (mvT hZ (hw _ (List.mem_of_getElem? (i := 3) rfl))) (by decide) (backOf (W := 0) (rmVal l Z a0 hw [] ((v4 &&& (255 : Int32)).toUInt32.toUInt16.toUInt32.toInt32) cz T93.heap n0 Z109 O110 (own_c255 v4).2 SC hcz) hZ (hw _ (List.mem_of_getElem? (i := 3) rfl)) (hw _ (List.mem_of_getElem? (i := 2) rfl)) (by decide) (by decide)) (g := (mkF m 67 #[iv v0, iv v1, iv v2, iv v3, iv v4, iv (v0 &&& (3 : Int32)), iv (v1 &&& (3 : Int32)), rv sA, rv a23, rv a72, .unset, .unset, .unset, .unset, .unset, .unset] [(.int ((v4 &&& (255 : Int32)).toUInt32.toUInt16.toUInt32.toInt32))])) rfl (by rw [hml]; rfl) (argsL := [(.int ((v4 &&& (255 : Int32)).toUInt32.toUInt16.toUInt32.toInt32))]) (rest := []) (lenOf (by decide +kernel : parseMethodDescriptor "(C)Ljava/lang/String;" = some ⟨[.char], some (.object "java/lang/String")⟩) rfl) rfl (by show 2 * 0 + _ ≤ _; exact Nat.le_of_eq rfl) (hb hby at_67) (fun _ _ => ⟨rfl, rfl, (by decide : 5 + 2 ≤ _), (by decide : 13 + 5 ≤ _)⟩)
  dsimp only [Pt.U, Pt.locs, Pt.cells, Pt.slots] at X115 l118 y119 z120 st121 hQ117
  subst l118 y119 z120
  obtain ⟨N122, OsT, ZsT, sT, rfl⟩ := hQ117
  have N124 := Fr.app N106 N122
  refine own_bk (S' := (T111.setTop (mkF m 70 #[iv v0, iv v1, iv v2, iv v3, iv v4, iv (v0 &&& (3 : Int32)), iv (v1 &&& (3 : Int32)), rv sA, rv a23, rv a72, .unset, .unset, .unset, .unset, .unset, .unset] [(.ref sT)]))) st121 ?_
  refine own_bk (S' := (T111.setTop (mkF m 72 #[iv v0, iv v1, iv v2, iv v3, iv v4, iv (v0 &&& (3 : Int32)), iv (v1 &&& (3 : Int32)), rv sA, rv a23, rv a72, rv sT, .unset, .unset, .unset, .unset, .unset] []))) (fun t_ kont => XS.astore X115.here hx rfl (hb hby at_70) rfl rfl (l' := #[iv v0, iv v1, iv v2, iv v3, iv v4, iv (v0 &&& (3 : Int32)), iv (v1 &&& (3 : Int32)), rv sA, rv a23, rv a72, rv sT, .unset, .unset, .unset, .unset, .unset]) rfl kont) ?_
  have hi := own_and3 v0
  generalize (v0 &&& (3 : Int32)) = i at hi ⊢
  have hj := own_and3 v1
  generalize (v1 &&& (3 : Int32)) = j at hj ⊢
  refine own_bk (S' := (T111.setTop (mkF m 74 #[iv v0, iv v1, iv v2, iv v3, iv v4, iv i, iv j, rv sA, rv a23, rv a72, rv sT, .unset, .unset, .unset, .unset, .unset] [(.int i)]))) (fun t_ kont => XS.iload X115.here hx rfl (hb hby at_72) rfl kont) ?_
  obtain ⟨ex, hex⟩ : ∃ x, (if i = 0 then r_VALID else if i = 1 then r_INVALID else if i = 2 then r_NOT_SUPPORTED else r_NOT_CHECKED) = x := ⟨_, rfl⟩
  obtain ⟨_, _, ⟨T125, L126, k127, n128⟩, -, X129, ⟨Lc130, hQ131, l132, y133, z134⟩, st135⟩ := Jvm.LawKit.callS X115 hx (y := (⟨"com/example/markupkeel/markupkeel/validator/OutcomeAgreesPinLaw", "verdict", "(I)Lcom/example/markupkeel/markupkeel/validator/TestSuite$Verdict;"⟩ : MethodName)) hown (mvT hZ (hw _ (List.mem_of_getElem? (i := 44) rfl))) (mvT hZ (hw _ (List.mem_of_getElem? (i := 45) rfl))) (mvT hZ (hw _ (List.mem_of_getElem? (i := 46) rfl))) (mvT hZ (hw _ (List.mem_of_getElem? (i := 47) rfl))) (by decide) (backOf (W := 0) (rm1 l Z a0 hw [] i r_VALID r_INVALID r_NOT_SUPPORTED r_NOT_CHECKED ex T111.heap n0 ZsT (G_VALID.1.ext OsT.2) (G_INVALID.1.ext OsT.2) (G_NOT_SUPPORTED.1.ext OsT.2) (G_NOT_CHECKED.1.ext OsT.2) hex) hZ (hw _ (List.mem_of_getElem? (i := 47) rfl)) (hw _ (List.mem_of_getElem? (i := 46) rfl)) (by decide) (by decide)) (g := (mkF m 74 #[iv v0, iv v1, iv v2, iv v3, iv v4, iv i, iv j, rv sA, rv a23, rv a72, rv sT, .unset, .unset, .unset, .unset, .unset] [(.int i)])) rfl (by rw [hml]; rfl) (argsL := [(.int i)]) (rest := []) (lenOf (by decide +kernel : parseMethodDescriptor "(I)Lcom/example/markupkeel/markupkeel/validator/TestSuite$Verdict;" = some ⟨[.int], some (.object "com/example/markupkeel/markupkeel/validator/TestSuite$Verdict")⟩) rfl) rfl (by show 2 * 0 + _ ≤ _; exact Nat.le_of_eq rfl) (hb hby at_74) (fun _ _ => ⟨rfl, rfl, (by decide : 7 + 0 ≤ _), (by decide : 18 + 0 ≤ _)⟩)
  dsimp only [Pt.U, Pt.locs, Pt.cells, Pt.slots] at X129 l132 y133 z134 st135 hQ131
  subst l132 y133 z134
  obtain ⟨rfl, N136, e137⟩ := hQ131
  have N138 := Fr.app N124 N136
  refine own_bk (S' := (T125.setTop (mkF m 77 #[iv v0, iv v1, iv v2, iv v3, iv v4, iv i, iv j, rv sA, rv a23, rv a72, rv sT, .unset, .unset, .unset, .unset, .unset] [(.ref ex)]))) st135 ?_
  refine own_bk (S' := (T125.setTop (mkF m 79 #[iv v0, iv v1, iv v2, iv v3, iv v4, iv i, iv j, rv sA, rv a23, rv a72, rv sT, rv ex, .unset, .unset, .unset, .unset] []))) (fun t_ kont => XS.astore X129.here hx rfl (hb hby at_77) rfl rfl (l' := #[iv v0, iv v1, iv v2, iv v3, iv v4, iv i, iv j, rv sA, rv a23, rv a72, rv sT, rv ex, .unset, .unset, .unset, .unset]) rfl kont) ?_
  refine own_bk (S' := (T125.setTop (mkF m 81 #[iv v0, iv v1, iv v2, iv v3, iv v4, iv i, iv j, rv sA, rv a23, rv a72, rv sT, rv ex, .unset, .unset, .unset, .unset] [(.int j)]))) (fun t_ kont => XS.iload X129.here hx rfl (hb hby at_79) rfl kont) ?_
  obtain ⟨ac, hac⟩ : ∃ x, (if j = 0 then r_VALID else if j = 1 then r_INVALID else if j = 2 then r_NOT_SUPPORTED else r_NOT_CHECKED) = x := ⟨_, rfl⟩
  obtain ⟨_, _, ⟨T139, L140, k141, n142⟩, -, X143, ⟨Lc144, hQ145, l146, y147, z148⟩, st149⟩ := Jvm.LawKit.callS X129 hx (y := (⟨"com/example/markupkeel/markupkeel/validator/OutcomeAgreesPinLaw", "verdict", "(I)Lcom/example/markupkeel/markupkeel/validator/TestSuite$Verdict;"⟩ : MethodName)) hown (mvT hZ (hw _ (List.mem_of_getElem? (i := 44) rfl))) (mvT hZ (hw _ (List.mem_of_getElem? (i := 45) rfl))) (mvT hZ (hw _ (List.mem_of_getElem? (i := 46) rfl))) (mvT hZ (hw _ (List.mem_of_getElem? (i := 47) rfl))) (by decide) (backOf (W := 0) (rm1 l Z a0 hw [] j r_VALID r_INVALID r_NOT_SUPPORTED r_NOT_CHECKED ac T111.heap n0 ZsT (G_VALID.1.ext OsT.2) (G_INVALID.1.ext OsT.2) (G_NOT_SUPPORTED.1.ext OsT.2) (G_NOT_CHECKED.1.ext OsT.2) hac) hZ (hw _ (List.mem_of_getElem? (i := 47) rfl)) (hw _ (List.mem_of_getElem? (i := 46) rfl)) (by decide) (by decide)) (g := (mkF m 81 #[iv v0, iv v1, iv v2, iv v3, iv v4, iv i, iv j, rv sA, rv a23, rv a72, rv sT, rv ex, .unset, .unset, .unset, .unset] [(.int j)])) rfl (by rw [hml]; rfl) (argsL := [(.int j)]) (rest := []) (lenOf (by decide +kernel : parseMethodDescriptor "(I)Lcom/example/markupkeel/markupkeel/validator/TestSuite$Verdict;" = some ⟨[.int], some (.object "com/example/markupkeel/markupkeel/validator/TestSuite$Verdict")⟩) rfl) rfl (by show 2 * 0 + _ ≤ _; exact Nat.le_of_eq rfl) (hb hby at_81) (fun _ _ => ⟨rfl, e137, (by decide : 7 + 0 ≤ _), (by decide : 18 + 0 ≤ _)⟩)
  dsimp only [Pt.U, Pt.locs, Pt.cells, Pt.slots] at X143 l146 y147 z148 st149 hQ145
  subst l146 y147 z148
  obtain ⟨rfl, N150, e151⟩ := hQ145
  have N152 := Fr.app N138 N150
  refine own_bk (S' := (T139.setTop (mkF m 84 #[iv v0, iv v1, iv v2, iv v3, iv v4, iv i, iv j, rv sA, rv a23, rv a72, rv sT, rv ex, .unset, .unset, .unset, .unset] [(.ref ac)]))) st149 ?_
  refine own_bk (S' := (T139.setTop (mkF m 86 #[iv v0, iv v1, iv v2, iv v3, iv v4, iv i, iv j, rv sA, rv a23, rv a72, rv sT, rv ex, rv ac, .unset, .unset, .unset] []))) (fun t_ kont => XS.astore X143.here hx rfl (hb hby at_84) rfl rfl (l' := #[iv v0, iv v1, iv v2, iv v3, iv v4, iv i, iv j, rv sA, rv a23, rv a72, rv sT, rv ex, rv ac, .unset, .unset, .unset]) rfl kont) ?_
  by_cases hc153 : i = j
  · have hea : ex = ac := hex.symm.trans (by rw [hc153]; exact hac)
    obtain ⟨T154, h155, X156, e157, E158, A159, D160, -, st161⟩ := newO X143 hx hZ hown (hw _ (List.mem_of_getElem? (i := 53) rfl)) (hw _ (List.mem_of_getElem? (i := 54) rfl)) (hw _ (List.mem_of_getElem? (i := 55) rfl)) e151 (g := (mkF m 86 #[iv v0, iv v1, iv v2, iv v3, iv v4, iv i, iv j, rv sA, rv a23, rv a72, rv sT, rv ex, rv ac, .unset, .unset, .unset] [])) rfl (hb hby at_86) (by decide) (by decide)
    obtain ⟨a162, g163⟩ : ∃ z, z = T111.heap.size := ⟨_, rfl⟩
    rw [← g163] at A159 D160 st161
    have ag164 : n0 ≤ a162 := Nat.le_trans ZsT (Nat.le_of_eq g163.symm)
    have Z165 := Nat.le_trans ZsT E158.1
    have O166 := OsT.ext E158
    have F167 : Fld Z h155 a162 "com/example/markupkeel/markupkeel/validator/TestSuite$Outcome" "set" "Ljava/lang/String;" .null := (D160 (Or.inr (hw _ (List.mem_of_getElem? (i := 66) rfl))) (ty := (.object "java/lang/String")) (by decide +kernel))
    have F168 : Fld Z h155 a162 "com/example/markupkeel/markupkeel/validator/TestSuite$Outcome" "group" "Ljava/lang/String;" .null := (D160 (Or.inr (hw _ (List.mem_of_getElem? (i := 68) rfl))) (ty := (.object "java/lang/String")) (by decide +kernel))
    have F169 : Fld Z h155 a162 "com/example/markupkeel/markupkeel/validator/TestSuite$Outcome" "test" "Ljava/lang/String;" .null := (D160 (Or.inr (hw _ (List.mem_of_getElem? (i := 70) rfl))) (ty := (.object "java/lang/String")) (by decide +kernel))
    have F170 : Fld Z h155 a162 "com/example/markupkeel/markupkeel/validator/TestSuite$Outcome" "expected" "Lcom/example/markupkeel/markupkeel/validator/TestSuite$Verdict;" .null := (D160 (Or.inr (hw _ (List.mem_of_getElem? (i := 72) rfl))) (ty := (.object "com/example/markupkeel/markupkeel/validator/TestSuite$Verdict")) (by decide +kernel))
    have F171 : Fld Z h155 a162 "com/example/markupkeel/markupkeel/validator/TestSuite$Outcome" "actual" "Lcom/example/markupkeel/markupkeel/validator/TestSuite$Verdict;" .null := (D160 (Or.inr (hw _ (List.mem_of_getElem? (i := 74) rfl))) (ty := (.object "com/example/markupkeel/markupkeel/validator/TestSuite$Verdict")) (by decide +kernel))
    refine own_bk (S' := (T154.setTop (mkF m 89 #[iv v0, iv v1, iv v2, iv v3, iv v4, iv i, iv j, rv sA, rv a23, rv a72, rv sT, rv ex, rv ac, .unset, .unset, .unset] [(.ref a162)]))) st161 ?_
    refine own_bk (S' := (T154.setTop (mkF m 90 #[iv v0, iv v1, iv v2, iv v3, iv v4, iv i, iv j, rv sA, rv a23, rv a72, rv sT, rv ex, rv ac, .unset, .unset, .unset] [(.ref a162), (.ref a162)]))) (fun t_ kont => XS.dup X156.here hx rfl (hb hby at_89) rfl rfl kont) ?_
    refine own_bk (S' := (T154.setTop (mkF m 92 #[iv v0, iv v1, iv v2, iv v3, iv v4, iv i, iv j, rv sA, rv a23, rv a72, rv sT, rv ex, rv ac, .unset, .unset, .unset] [(.ref sA), (.ref a162), (.ref a162)]))) (fun t_ kont => XS.aload X156.here hx rfl (hb hby at_90) rfl rfl kont) ?_
    refine own_bk (S' := (T154.setTop (mkF m 94 #[iv v0, iv v1, iv v2, iv v3, iv v4, iv i, iv j, rv sA, rv a23, rv a72, rv sT, rv ex, rv ac, .unset, .unset, .unset] [(.ref a72), (.ref sA), (.ref a162), (.ref a162)]))) (fun t_ kont => XS.aload X156.here hx rfl (hb hby at_92) rfl rfl kont) ?_
    refine own_bk (S' := (T154.setTop (mkF m 96 #[iv v0, iv v1, iv v2, iv v3, iv v4, iv i, iv j, rv sA, rv a23, rv a72, rv sT, rv ex, rv ac, .unset, .unset, .unset] [(.ref sT), (.ref a72), (.ref sA), (.ref a162), (.ref a162)]))) (fun t_ kont => XS.aload X156.here hx rfl (hb hby at_94) rfl rfl kont) ?_
    refine own_bk (S' := (T154.setTop (mkF m 98 #[iv v0, iv v1, iv v2, iv v3, iv v4, iv i, iv j, rv sA, rv a23, rv a72, rv sT, rv ex, rv ac, .unset, .unset, .unset] [(.ref ex), (.ref sT), (.ref a72), (.ref sA), (.ref a162), (.ref a162)]))) (fun t_ kont => XS.aload X156.here hx rfl (hb hby at_96) rfl rfl kont) ?_
    refine own_bk (S' := (T154.setTop (mkF m 100 #[iv v0, iv v1, iv v2, iv v3, iv v4, iv i, iv j, rv sA, rv a23, rv a72, rv sT, rv ex, rv ac, .unset, .unset, .unset] [(.ref ac), (.ref ex), (.ref sT), (.ref a72), (.ref sA), (.ref a162), (.ref a162)]))) (fun t_ kont => XS.aload X156.here hx rfl (hb hby at_98) rfl rfl kont) ?_
    obtain ⟨_, _, ⟨T175, L176, k177, n178⟩, -, X179, ⟨Lc180, hQ181, l182, y183, z184⟩, st185⟩ := X156.specialBack hx (y := (⟨"com/example/markupkeel/markupkeel/validator/TestSuite$Outcome", "<init>", "(Ljava/lang/String;Ljava/lang/String;Ljava/lang/String;Lcom/example/markupkeel/markupkeel/validator/TestSuite$Verdict;Lcom/example/markupkeel/markupkeel/validator/TestSuite$Verdict;)V"⟩ : MethodName)) rfl hown (mvT hZ (hw _ (List.mem_of_getElem? (i := 56) rfl))) (mvT hZ (hw _ (List.mem_of_getElem? (i := 57) rfl))) (mvT hZ (hw _ (List.mem_of_getElem? (i := 58) rfl))) (by decide) (backOf (W := 1) (rm12 l Z a0 hw [] a162 sA a72 sT ex ac h155 n0 Z165 A159 ag164 F167 F168 F169 F170 F171) hZ (hw _ (List.mem_of_getElem? (i := 58) rfl)) (hw _ (List.mem_of_getElem? (i := 55) rfl)) (by decide) (by decide)) (g := (mkF m 100 #[iv v0, iv v1, iv v2, iv v3, iv v4, iv i, iv j, rv sA, rv a23, rv a72, rv sT, rv ex, rv ac, .unset, .unset, .unset] [(.ref ac), (.ref ex), (.ref sT), (.ref a72), (.ref sA), (.ref a162), (.ref a162)])) rfl (by rw [hml]; rfl) (Steps.refl _) (a := a162) (argsL := [(.ref sA), (.ref a72), (.ref sT), (.ref ex), (.ref ac)]) (rest := [(.ref a162)]) (lenOf (by decide +kernel : parseMethodDescriptor "(Ljava/lang/String;Ljava/lang/String;Ljava/lang/String;Lcom/example/markupkeel/markupkeel/validator/TestSuite$Verdict;Lcom/example/markupkeel/markupkeel/validator/TestSuite$Verdict;)V" = some ⟨[(.object "java/lang/String"), (.object "java/lang/String"), (.object "java/lang/String"), (.object "com/example/markupkeel/markupkeel/validator/TestSuite$Verdict"), (.object "com/example/markupkeel/markupkeel/validator/TestSuite$Verdict")], none⟩) rfl) rfl (by show 2 * 0 + _ ≤ _; exact Nat.le_of_eq rfl) (hb hby at_100) (fun _ _ => ⟨rfl, e157, (by decide : 8 + 0 ≤ _), (by decide : 23 + 0 ≤ _)⟩)
    dsimp only [Pt.U, Pt.locs, Pt.cells, Pt.slots] at X179 l182 y183 z184 st185 hQ181
    subst l182 y183 z184
    obtain ⟨rfl, N186, K172, ge173, ga174⟩ := hQ181
    have N188 := Fr.app N152 N186
    have E189 := (A159.keep K172)
    have Z190 := Nat.le_trans Z165 K172.1
    have O191 := O166.keep K172 (allS ag164 all0)
    refine own_tr (S' := (T175.setTop (mkF m 103 #[iv v0, iv v1, iv v2, iv v3, iv v4, iv i, iv j, rv sA, rv a23, rv a72, rv sT, rv ex, rv ac, .unset, .unset, .unset] [(.ref a162)]))) st185 ?_
    refine own_bk (S' := (T175.setTop (mkF m 105 #[iv v0, iv v1, iv v2, iv v3, iv v4, iv i, iv j, rv sA, rv a23, rv a72, rv sT, rv ex, rv ac, rv a162, .unset, .unset] []))) (fun t_ kont => XS.astore X179.here hx rfl (hb hby at_103) rfl rfl (l' := #[iv v0, iv v1, iv v2, iv v3, iv v4, iv i, iv j, rv sA, rv a23, rv a72, rv sT, rv ex, rv ac, rv a162, .unset, .unset]) rfl kont) ?_
    obtain ⟨T192, h193, X194, e195, E196, A197, D198, -, st199⟩ := newO X179 hx hZ hown (hw _ (List.mem_of_getElem? (i := 53) rfl)) (hw _ (List.mem_of_getElem? (i := 54) rfl)) (hw _ (List.mem_of_getElem? (i := 55) rfl)) rfl (g := (mkF m 105 #[iv v0, iv v1, iv v2, iv v3, iv v4, iv i, iv j, rv sA, rv a23, rv a72, rv sT, rv ex, rv ac, rv a162, .unset, .unset] [])) rfl (hb hby at_105) (by decide) (by decide)
    obtain ⟨a200, g201⟩ : ∃ z, z = T175.heap.size := ⟨_, rfl⟩
    rw [← g201] at A197 D198 st199
    have ne202 : a162 ≠ a200 := Nat.ne_of_lt (Nat.lt_of_lt_of_le E189.lt (Nat.le_of_eq g201.symm))
    have ag203 : n0 ≤ a200 := Nat.le_trans Z190 (Nat.le_of_eq g201.symm)
    have E204 := (E189.ext E196)
    have F205 := (ge173.ext E196)
    have F206 := (ga174.ext E196)
    have Z207 := Nat.le_trans Z190 E196.1
    have O208 := O191.ext E196
    have F209 : Fld Z h193 a200 "com/example/markupkeel/markupkeel/validator/TestSuite$Outcome" "set" "Ljava/lang/String;" .null := (D198 (Or.inr (hw _ (List.mem_of_getElem? (i := 66) rfl))) (ty := (.object "java/lang/String")) (by decide +kernel))
    have F210 : Fld Z h193 a200 "com/example/markupkeel/markupkeel/validator/TestSuite$Outcome" "group" "Ljava/lang/String;" .null := (D198 (Or.inr (hw _ (List.mem_of_getElem? (i := 68) rfl))) (ty := (.object "java/lang/String")) (by decide +kernel))
    have F211 : Fld Z h193 a200 "com/example/markupkeel/markupkeel/validator/TestSuite$Outcome" "test" "Ljava/lang/String;" .null := (D198 (Or.inr (hw _ (List.mem_of_getElem? (i := 70) rfl))) (ty := (.object "java/lang/String")) (by decide +kernel))
    have F212 : Fld Z h193 a200 "com/example/markupkeel/markupkeel/validator/TestSuite$Outcome" "expected" "Lcom/example/markupkeel/markupkeel/validator/TestSuite$Verdict;" .null := (D198 (Or.inr (hw _ (List.mem_of_getElem? (i := 72) rfl))) (ty := (.object "com/example/markupkeel/markupkeel/validator/TestSuite$Verdict")) (by decide +kernel))
    have F213 : Fld Z h193 a200 "com/example/markupkeel/markupkeel/validator/TestSuite$Outcome" "actual" "Lcom/example/markupkeel/markupkeel/validator/TestSuite$Verdict;" .null := (D198 (Or.inr (hw _ (List.mem_of_getElem? (i := 74) rfl))) (ty := (.object "com/example/markupkeel/markupkeel/validator/TestSuite$Verdict")) (by decide +kernel))
    refine own_bk (S' := (T192.setTop (mkF m 108 #[iv v0, iv v1, iv v2, iv v3, iv v4, iv i, iv j, rv sA, rv a23, rv a72, rv sT, rv ex, rv ac, rv a162, .unset, .unset] [(.ref a200)]))) st199 ?_
    refine own_bk (S' := (T192.setTop (mkF m 109 #[iv v0, iv v1, iv v2, iv v3, iv v4, iv i, iv j, rv sA, rv a23, rv a72, rv sT, rv ex, rv ac, rv a162, .unset, .unset] [(.ref a200), (.ref a200)]))) (fun t_ kont => XS.dup X194.here hx rfl (hb hby at_108) rfl rfl kont) ?_
    refine own_bk (S' := (T192.setTop (mkF m 111 #[iv v0, iv v1, iv v2, iv v3, iv v4, iv i, iv j, rv sA, rv a23, rv a72, rv sT, rv ex, rv ac, rv a162, .unset, .unset] [(.ref sT), (.ref a200), (.ref a200)]))) (fun t_ kont => XS.aload X194.here hx rfl (hb hby at_109) rfl rfl kont) ?_
    refine own_bk (S' := (T192.setTop (mkF m 113 #[iv v0, iv v1, iv v2, iv v3, iv v4, iv i, iv j, rv sA, rv a23, rv a72, rv sT, rv ex, rv ac, rv a162, .unset, .unset] [(.ref sA), (.ref sT), (.ref a200), (.ref a200)]))) (fun t_ kont => XS.aload X194.here hx rfl (hb hby at_111) rfl rfl kont) ?_
    refine own_bk (S' := (T192.setTop (mkF m 115 #[iv v0, iv v1, iv v2, iv v3, iv v4, iv i, iv j, rv sA, rv a23, rv a72, rv sT, rv ex, rv ac, rv a162, .unset, .unset] [(.ref a72), (.ref sA), (.ref sT), (.ref a200), (.ref a200)]))) (fun t_ kont => XS.aload X194.here hx rfl (hb hby at_113) rfl rfl kont) ?_
    refine own_bk (S' := (T192.setTop (mkF m 117 #[iv v0, iv v1, iv v2, iv v3, iv v4, iv i, iv j, rv sA, rv a23, rv a72, rv sT, rv ex, rv ac, rv a162, .unset, .unset] [(.ref ac), (.ref a72), (.ref sA), (.ref sT), (.ref a200), (.ref a200)]))) (fun t_ kont => XS.aload X194.here hx rfl (hb hby at_115) rfl rfl kont) ?_
    refine own_bk (S' := (T192.setTop (mkF m 119 #[iv v0, iv v1, iv v2, iv v3, iv v4, iv i, iv j, rv sA, rv a23, rv a72, rv sT, rv ex, rv ac, rv a162, .unset, .unset] [(.ref ex), (.ref ac), (.ref a72), (.ref sA), (.ref sT), (.ref a200), (.ref a200)]))) (fun t_ kont => XS.aload X194.here hx rfl (hb hby at_117) rfl rfl kont) ?_
    obtain ⟨_, _, ⟨T217, L218, k219, n220⟩, -, X221, ⟨Lc222, hQ223, l224, y225, z226⟩, st227⟩ := X194.specialBack hx (y := (⟨"com/example/markupkeel/markupkeel/validator/TestSuite$Outcome", "<init>", "(Ljava/lang/String;Ljava/lang/String;Ljava/lang/String;Lcom/example/markupkeel/markupkeel/validator/TestSuite$Verdict;Lcom/example/markupkeel/markupkeel/validator/TestSuite$Verdict;)V"⟩ : MethodName)) rfl hown (mvT hZ (hw _ (List.mem_of_getElem? (i := 56) rfl))) (mvT hZ (hw _ (List.mem_of_getElem? (i := 57) rfl))) (mvT hZ (hw _ (List.mem_of_getElem? (i := 58) rfl))) (by decide) (backOf (W := 1) (rm12 l Z a0 hw [] a200 sT sA a72 ac ex h193 n0 Z207 A197 ag203 F209 F210 F211 F212 F213) hZ (hw _ (List.mem_of_getElem? (i := 58) rfl)) (hw _ (List.mem_of_getElem? (i := 55) rfl)) (by decide) (by decide)) (g := (mkF m 119 #[iv v0, iv v1, iv v2, iv v3, iv v4, iv i, iv j, rv sA, rv a23, rv a72, rv sT, rv ex, rv ac, rv a162, .unset, .unset] [(.ref ex), (.ref ac), (.ref a72), (.ref sA), (.ref sT), (.ref a200), (.ref a200)])) rfl (by rw [hml]; rfl) (Steps.refl _) (a := a200) (argsL := [(.ref sT), (.ref sA), (.ref a72), (.ref ac), (.ref ex)]) (rest := [(.ref a200)]) (lenOf (by decide +kernel : parseMethodDescriptor "(Ljava/lang/String;Ljava/lang/String;Ljava/lang/String;Lcom/example/markupkeel/markupkeel/validator/TestSuite$Verdict;Lcom/example/markupkeel/markupkeel/validator/TestSuite$Verdict;)V" = some ⟨[(.object "java/lang/String"), (.object "java/lang/String"), (.object "java/lang/String"), (.object "com/example/markupkeel/markupkeel/validator/TestSuite$Verdict"), (.object "com/example/markupkeel/markupkeel/validator/TestSuite$Verdict")], none⟩) rfl) rfl (by show 2 * 0 + _ ≤ _; exact Nat.le_of_eq rfl) (hb hby at_119) (fun _ _ => ⟨rfl, e195, (by decide : 9 + 0 ≤ _), (by decide : 28 + 0 ≤ _)⟩)
    dsimp only [Pt.U, Pt.locs, Pt.cells, Pt.slots] at X221 l224 y225 z226 st227 hQ223
    subst l224 y225 z226
    obtain ⟨rfl, N228, K214, ge215, ga216⟩ := hQ223
    have N230 := Fr.app N188 N228
    have E231 := (E204.keep K214)
    have F232 := (F205.keep K214 (ninS ne202 nin0))
    have F233 := (F206.keep K214 (ninS ne202 nin0))
    have E234 := (A197.keep K214)
    have Z235 := Nat.le_trans Z207 K214.1
    have O236 := O208.keep K214 (allS ag203 all0)
    refine own_tr (S' := (T217.setTop (mkF m 122 #[iv v0, iv v1, iv v2, iv v3, iv v4, iv i, iv j, rv sA, rv a23, rv a72, rv sT, rv ex, rv ac, rv a162, .unset, .unset] [(.ref a200)]))) st227 ?_
    refine own_bk (S' := (T217.setTop (mkF m 124 #[iv v0, iv v1, iv v2, iv v3, iv v4, iv i, iv j, rv sA, rv a23, rv a72, rv sT, rv ex, rv ac, rv a162, rv a200, .unset] []))) (fun t_ kont => XS.astore X221.here hx rfl (hb hby at_122) rfl rfl (l' := #[iv v0, iv v1, iv v2, iv v3, iv v4, iv i, iv j, rv sA, rv a23, rv a72, rv sT, rv ex, rv ac, rv a162, rv a200, .unset]) rfl kont) ?_
    refine own_bk (S' := (T217.setTop (mkF m 126 #[iv v0, iv v1, iv v2, iv v3, iv v4, iv i, iv j, rv sA, rv a23, rv a72, rv sT, rv ex, rv ac, rv a162, rv a200, .unset] [(.int i)]))) (fun t_ kont => XS.iload X221.here hx rfl (hb hby at_124) rfl kont) ?_
    refine own_bk (S' := (T217.setTop (mkF m 128 #[iv v0, iv v1, iv v2, iv v3, iv v4, iv i, iv j, rv sA, rv a23, rv a72, rv sT, rv ex, rv ac, rv a162, rv a200, .unset] [(.int j), (.int i)]))) (fun t_ kont => XS.iload X221.here hx rfl (hb hby at_126) rfl kont) ?_
    refine own_bk (S' := (T217.setTop (mkF m 131 #[iv v0, iv v1, iv v2, iv v3, iv v4, iv i, iv j, rv sA, rv a23, rv a72, rv sT, rv ex, rv ac, rv a162, rv a200, .unset] []))) (fun t_ kont => XS.icmpNo X221.here hx rfl (hb hby at_128) rfl (teq (hc153)).2 kont) ?_
    refine own_bk (S' := (T217.setTop (mkF m 132 #[iv v0, iv v1, iv v2, iv v3, iv v4, iv i, iv j, rv sA, rv a23, rv a72, rv sT, rv ex, rv ac, rv a162, rv a200, .unset] [(.int (1 : Int32))]))) (fun t_ kont => XS.iconst X221.here hx rfl (hb hby at_131) kont) ?_
    refine own_bk (S' := (T217.setTop (mkF m 136 #[iv v0, iv v1, iv v2, iv v3, iv v4, iv i, iv j, rv sA, rv a23, rv a72, rv sT, rv ex, rv ac, rv a162, rv a200, .unset] [(.int (1 : Int32))]))) (fun t_ kont => XS.goto X221.here hx rfl (pc0 := 132) (pc' := 136) rfl (hb hby at_132) (by decide) (by decide) kont) ?_
    refine own_bk (S' := (T217.setTop (mkF m 138 #[iv v0, iv v1, iv v2, iv v3, iv v4, iv i, iv j, rv sA, rv a23, rv a72, rv sT, rv ex, rv ac, rv a162, rv a200, iv (1 : Int32)] []))) (fun t_ kont => XS.istore X221.here hx rfl (hb hby at_136) rfl (l' := #[iv v0, iv v1, iv v2, iv v3, iv v4, iv i, iv j, rv sA, rv a23, rv a72, rv sT, rv ex, rv ac, rv a162, rv a200, iv (1 : Int32)]) rfl kont) ?_
    refine own_bk (S' := (T217.setTop (mkF m 140 #[iv v0, iv v1, iv v2, iv v3, iv v4, iv i, iv j, rv sA, rv a23, rv a72, rv sT, rv ex, rv ac, rv a162, rv a200, iv (1 : Int32)] [(.ref a162)]))) (fun t_ kont => XS.aload X221.here hx rfl (hb hby at_138) rfl rfl kont) ?_
    obtain ⟨cqq248, kqq248, q248a, q248b, q248c⟩ := isOf hZ rfl E231
    obtain ⟨_, _, ⟨T237, L238, k239, n240⟩, -, X241, ⟨Lc242, hQ243, l244, y245, z246⟩, st247⟩ := X221.virtualBack hx (y := (⟨"com/example/markupkeel/markupkeel/validator/TestSuite$Outcome", "agrees", "()Z"⟩ : MethodName)) (z := (⟨"com/example/markupkeel/markupkeel/validator/TestSuite$Outcome", "agrees", "()Z"⟩ : MethodName)) hown (mvT hZ (hw _ (List.mem_of_getElem? (i := 75) rfl))) (mvT hZ (hw _ (List.mem_of_getElem? (i := 76) rfl))) (notFace_of_selects (args := #[]) (mvT hZ (hw _ (List.mem_of_getElem? (i := 78) rfl)))) (mvT hZ (hw _ (List.mem_of_getElem? (i := 78) rfl))) (mvT hZ (hw _ (List.mem_of_getElem? (i := 77) rfl))) (by decide) (backOf (W := 0) (rm14 l Z a0 hw [] a162 ex ac (1 : Int32) T217.heap n0 Z235 F232 F233 (by simp [hea])) hZ (hw _ (List.mem_of_getElem? (i := 79) rfl)) (hw _ (List.mem_of_getElem? (i := 55) rfl)) (by decide) (by decide)) q248a q248c (g := (mkF m 140 #[iv v0, iv v1, iv v2, iv v3, iv v4, iv i, iv j, rv sA, rv a23, rv a72, rv sT, rv ex, rv ac, rv a162, rv a200, iv (1 : Int32)] [(.ref a162)])) rfl (by rw [hml]; rfl) (Steps.refl _) (argsL := []) (rest := []) (lenOf (by decide +kernel : parseMethodDescriptor "()Z" = some ⟨[], some .boolean⟩) rfl) rfl (by show 2 * 0 + _ ≤ _; exact Nat.le_of_eq rfl) (hb hby at_140) (fun _ _ => ⟨rfl, rfl, (by decide : 9 + 0 ≤ _), (by decide : 28 + 0 ≤ _)⟩)
    dsimp only [Pt.U, Pt.locs, Pt.cells, Pt.slots] at X241 l244 y245 z246 st247 hQ243
    subst l244 y245 z246
    obtain ⟨rfl, N249, e250⟩ := hQ243
    have N251 := Fr.app N230 N249
    refine own_tr (S' := (T237.setTop (mkF m 143 #[iv v0, iv v1, iv v2, iv v3, iv v4, iv i, iv j, rv sA, rv a23, rv a72, rv sT, rv ex, rv ac, rv a162, rv a200, iv (1 : Int32)] [(.int (1 : Int32))]))) st247 ?_
    refine own_bk (S' := (T237.setTop (mkF m 145 #[iv v0, iv v1, iv v2, iv v3, iv v4, iv i, iv j, rv sA, rv a23, rv a72, rv sT, rv ex, rv ac, rv a162, rv a200, iv (1 : Int32)] [(.int (1 : Int32)), (.int (1 : Int32))]))) (fun t_ kont => XS.iload X241.here hx rfl (hb hby at_143) rfl kont) ?_
    refine own_bk (S' := (T237.setTop (mkF m 148 #[iv v0, iv v1, iv v2, iv v3, iv v4, iv i, iv j, rv sA, rv a23, rv a72, rv sT, rv ex, rv ac, rv a162, rv a200, iv (1 : Int32)] []))) (fun t_ kont => XS.icmpNo X241.here hx rfl (hb hby at_145) rfl (teq (by decide : ((1 : Int32)) = ((1 : Int32)))).2 kont) ?_
    refine own_bk (S' := (T237.setTop (mkF m 150 #[iv v0, iv v1, iv v2, iv v3, iv v4, iv i, iv j, rv sA, rv a23, rv a72, rv sT, rv ex, rv ac, rv a162, rv a200, iv (1 : Int32)] [(.ref a200)]))) (fun t_ kont => XS.aload X241.here hx rfl (hb hby at_148) rfl rfl kont) ?_
    obtain ⟨cqq263, kqq263, q263a, q263b, q263c⟩ := isOf hZ e250 E234
    obtain ⟨_, _, ⟨T252, L253, k254, n255⟩, -, X256, ⟨Lc257, hQ258, l259, y260, z261⟩, st262⟩ := X241.virtualBack hx (y := (⟨"com/example/markupkeel/markupkeel/validator/TestSuite$Outcome", "agrees", "()Z"⟩ : MethodName)) (z := (⟨"com/example/markupkeel/markupkeel/validator/TestSuite$Outcome", "agrees", "()Z"⟩ : MethodName)) hown (mvT hZ (hw _ (List.mem_of_getElem? (i := 75) rfl))) (mvT hZ (hw _ (List.mem_of_getElem? (i := 76) rfl))) (notFace_of_selects (args := #[]) (mvT hZ (hw _ (List.mem_of_getElem? (i := 78) rfl)))) (mvT hZ (hw _ (List.mem_of_getElem? (i := 78) rfl))) (mvT hZ (hw _ (List.mem_of_getElem? (i := 77) rfl))) (by decide) (backOf (W := 0) (rm14 l Z a0 hw [] a200 ac ex (1 : Int32) T217.heap n0 Z235 ge215 ga216 (by simp [hea])) hZ (hw _ (List.mem_of_getElem? (i := 79) rfl)) (hw _ (List.mem_of_getElem? (i := 55) rfl)) (by decide) (by decide)) q263a q263c (g := (mkF m 150 #[iv v0, iv v1, iv v2, iv v3, iv v4, iv i, iv j, rv sA, rv a23, rv a72, rv sT, rv ex, rv ac, rv a162, rv a200, iv (1 : Int32)] [(.ref a200)])) rfl (by rw [hml]; rfl) (Steps.refl _) (argsL := []) (rest := []) (lenOf (by decide +kernel : parseMethodDescriptor "()Z" = some ⟨[], some .boolean⟩) rfl) rfl (by show 2 * 0 + _ ≤ _; exact Nat.le_of_eq rfl) (hb hby at_150) (fun _ _ => ⟨rfl, e250, (by decide : 9 + 0 ≤ _), (by decide : 28 + 0 ≤ _)⟩)
    dsimp only [Pt.U, Pt.locs, Pt.cells, Pt.slots] at X256 l259 y260 z261 st262 hQ258
    subst l259 y260 z261
    obtain ⟨rfl, N264, e265⟩ := hQ258
    have N266 := Fr.app N251 N264
    refine own_tr (S' := (T252.setTop (mkF m 153 #[iv v0, iv v1, iv v2, iv v3, iv v4, iv i, iv j, rv sA, rv a23, rv a72, rv sT, rv ex, rv ac, rv a162, rv a200, iv (1 : Int32)] [(.int (1 : Int32))]))) st262 ?_
    refine own_bk (S' := (T252.setTop (mkF m 155 #[iv v0, iv v1, iv v2, iv v3, iv v4, iv i, iv j, rv sA, rv a23, rv a72, rv sT, rv ex, rv ac, rv a162, rv a200, iv (1 : Int32)] [(.int (1 : Int32)), (.int (1 : Int32))]))) (fun t_ kont => XS.iload X256.here hx rfl (hb hby at_153) rfl kont) ?_
    refine own_bk (S' := (T252.setTop (mkF m 158 #[iv v0, iv v1, iv v2, iv v3, iv v4, iv i, iv j, rv sA, rv a23, rv a72, rv sT, rv ex, rv ac, rv a162, rv a200, iv (1 : Int32)] []))) (fun t_ kont => XS.icmpNo X256.here hx rfl (hb hby at_155) rfl (teq (by decide : ((1 : Int32)) = ((1 : Int32)))).2 kont) ?_
    refine own_bk (S' := (T252.setTop (mkF m 159 #[iv v0, iv v1, iv v2, iv v3, iv v4, iv i, iv j, rv sA, rv a23, rv a72, rv sT, rv ex, rv ac, rv a162, rv a200, iv (1 : Int32)] [(.int (1 : Int32))]))) (fun t_ kont => XS.iconst X256.here hx rfl (hb hby at_158) kont) ?_
    refine own_bk (S' := (T252.setTop (mkF m 163 #[iv v0, iv v1, iv v2, iv v3, iv v4, iv i, iv j, rv sA, rv a23, rv a72, rv sT, rv ex, rv ac, rv a162, rv a200, iv (1 : Int32)] [(.int (1 : Int32))]))) (fun t_ kont => XS.goto X256.here hx rfl (pc0 := 159) (pc' := 163) rfl (hb hby at_159) (by decide) (by decide) kont) ?_
    exact own_retN X256 hx hlk (t := .boolean) (w := (1 : Int32)) Bd.returns (by simp) (hb hby at_163) rfl ⟨rfl, N266⟩ (by decide) (by decide)
  · have hea : ex ≠ ac := own_ver (G_VALID.ne G_INVALID (by decide)) (G_VALID.ne G_NOT_SUPPORTED (by decide)) (G_VALID.ne G_NOT_CHECKED (by decide)) (G_INVALID.ne G_NOT_SUPPORTED (by decide)) (G_INVALID.ne G_NOT_CHECKED (by decide)) (G_NOT_SUPPORTED.ne G_NOT_CHECKED (by decide)) hi hj hex hac hc153
    obtain ⟨T267, h268, X269, e270, E271, A272, D273, -, st274⟩ := newO X143 hx hZ hown (hw _ (List.mem_of_getElem? (i := 53) rfl)) (hw _ (List.mem_of_getElem? (i := 54) rfl)) (hw _ (List.mem_of_getElem? (i := 55) rfl)) e151 (g := (mkF m 86 #[iv v0, iv v1, iv v2, iv v3, iv v4, iv i, iv j, rv sA, rv a23, rv a72, rv sT, rv ex, rv ac, .unset, .unset, .unset] [])) rfl (hb hby at_86) (by decide) (by decide)
    obtain ⟨a275, g276⟩ : ∃ z, z = T111.heap.size := ⟨_, rfl⟩
    rw [← g276] at A272 D273 st274
    have ag277 : n0 ≤ a275 := Nat.le_trans ZsT (Nat.le_of_eq g276.symm)
    have Z278 := Nat.le_trans ZsT E271.1
    have O279 := OsT.ext E271
    have F280 : Fld Z h268 a275 "com/example/markupkeel/markupkeel/validator/TestSuite$Outcome" "set" "Ljava/lang/String;" .null := (D273 (Or.inr (hw _ (List.mem_of_getElem? (i := 66) rfl))) (ty := (.object "java/lang/String")) (by decide +kernel))
    have F281 : Fld Z h268 a275 "com/example/markupkeel/markupkeel/validator/TestSuite$Outcome" "group" "Ljava/lang/String;" .null := (D273 (Or.inr (hw _ (List.mem_of_getElem? (i := 68) rfl))) (ty := (.object "java/lang/String")) (by decide +kernel))
    have F282 : Fld Z h268 a275 "com/example/markupkeel/markupkeel/validator/TestSuite$Outcome" "test" "Ljava/lang/String;" .null := (D273 (Or.inr (hw _ (List.mem_of_getElem? (i := 70) rfl))) (ty := (.object "java/lang/String")) (by decide +kernel))
    have F283 : Fld Z h268 a275 "com/example/markupkeel/markupkeel/validator/TestSuite$Outcome" "expected" "Lcom/example/markupkeel/markupkeel/validator/TestSuite$Verdict;" .null := (D273 (Or.inr (hw _ (List.mem_of_getElem? (i := 72) rfl))) (ty := (.object "com/example/markupkeel/markupkeel/validator/TestSuite$Verdict")) (by decide +kernel))
    have F284 : Fld Z h268 a275 "com/example/markupkeel/markupkeel/validator/TestSuite$Outcome" "actual" "Lcom/example/markupkeel/markupkeel/validator/TestSuite$Verdict;" .null := (D273 (Or.inr (hw _ (List.mem_of_getElem? (i := 74) rfl))) (ty := (.object "com/example/markupkeel/markupkeel/validator/TestSuite$Verdict")) (by decide +kernel))
    refine own_bk (S' := (T267.setTop (mkF m 89 #[iv v0, iv v1, iv v2, iv v3, iv v4, iv i, iv j, rv sA, rv a23, rv a72, rv sT, rv ex, rv ac, .unset, .unset, .unset] [(.ref a275)]))) st274 ?_
    refine own_bk (S' := (T267.setTop (mkF m 90 #[iv v0, iv v1, iv v2, iv v3, iv v4, iv i, iv j, rv sA, rv a23, rv a72, rv sT, rv ex, rv ac, .unset, .unset, .unset] [(.ref a275), (.ref a275)]))) (fun t_ kont => XS.dup X269.here hx rfl (hb hby at_89) rfl rfl kont) ?_
    refine own_bk (S' := (T267.setTop (mkF m 92 #[iv v0, iv v1, iv v2, iv v3, iv v4, iv i, iv j, rv sA, rv a23, rv a72, rv sT, rv ex, rv ac, .unset, .unset, .unset] [(.ref sA), (.ref a275), (.ref a275)]))) (fun t_ kont => XS.aload X269.here hx rfl (hb hby at_90) rfl rfl kont) ?_
    refine own_bk (S' := (T267.setTop (mkF m 94 #[iv v0, iv v1, iv v2, iv v3, iv v4, iv i, iv j, rv sA, rv a23, rv a72, rv sT, rv ex, rv ac, .unset, .unset, .unset] [(.ref a72), (.ref sA), (.ref a275), (.ref a275)]))) (fun t_ kont => XS.aload X269.here hx rfl (hb hby at_92) rfl rfl kont) ?_
    refine own_bk (S' := (T267.setTop (mkF m 96 #[iv v0, iv v1, iv v2, iv v3, iv v4, iv i, iv j, rv sA, rv a23, rv a72, rv sT, rv ex, rv ac, .unset, .unset, .unset] [(.ref sT), (.ref a72), (.ref sA), (.ref a275), (.ref a275)]))) (fun t_ kont => XS.aload X269.here hx rfl (hb hby at_94) rfl rfl kont) ?_
    refine own_bk (S' := (T267.setTop (mkF m 98 #[iv v0, iv v1, iv v2, iv v3, iv v4, iv i, iv j, rv sA, rv a23, rv a72, rv sT, rv ex, rv ac, .unset, .unset, .unset] [(.ref ex), (.ref sT), (.ref a72), (.ref sA), (.ref a275), (.ref a275)]))) (fun t_ kont => XS.aload X269.here hx rfl (hb hby at_96) rfl rfl kont) ?_
    refine own_bk (S' := (T267.setTop (mkF m 100 #[iv v0, iv v1, iv v2, iv v3, iv v4, iv i, iv j, rv sA, rv a23, rv a72, rv sT, rv ex, rv ac, .unset, .unset, .unset] [(.ref ac), (.ref ex), (.ref sT), (.ref a72), (.ref sA), (.ref a275), (.ref a275)]))) (fun t_ kont => XS.aload X269.here hx rfl (hb hby at_98) rfl rfl kont) ?_
    obtain ⟨_, _, ⟨T288, L289, k290, n291⟩, -, X292, ⟨Lc293, hQ294, l295, y296, z297⟩, st298⟩ := X269.specialBack hx (y := (⟨"com/example/markupkeel/markupkeel/validator/TestSuite$Outcome", "<init>", "(Ljava/lang/String;Ljava/lang/String;Ljava/lang/String;Lcom/example/markupkeel/markupkeel/validator/TestSuite$Verdict;Lcom/example/markupkeel/markupkeel/validator/TestSuite$Verdict;)V"⟩ : MethodName)) rfl hown (mvT hZ (hw _ (List.mem_of_getElem? (i := 56) rfl))) (mvT hZ (hw _ (List.mem_of_getElem? (i := 57) rfl))) (mvT hZ (hw _ (List.mem_of_getElem? (i := 58) rfl))) (by decide) (backOf (W := 1) (rm12 l Z a0 hw [] a275 sA a72 sT ex ac h268 n0 Z278 A272 ag277 F280 F281 F282 F283 F284) hZ (hw _ (List.mem_of_getElem? (i := 58) rfl)) (hw _ (List.mem_of_getElem? (i := 55) rfl)) (by decide) (by decide)) (g := (mkF m 100 #[iv v0, iv v1, iv v2, iv v3, iv v4, iv i, iv j, rv sA, rv a23, rv a72, rv sT, rv ex, rv ac, .unset, .unset, .unset] [(.ref ac), (.ref ex), (.ref sT), (.ref a72), (.ref sA), (.ref a275), (.ref a275)])) rfl (by rw [hml]; rfl) (Steps.refl _) (a := a275) (argsL := [(.ref sA), (.ref a72), (.ref sT), (.ref ex), (.ref ac)]) (rest := [(.ref a275)]) (lenOf (by decide +kernel : parseMethodDescriptor "(Ljava/lang/String;Ljava/lang/String;Ljava/lang/String;Lcom/example/markupkeel/markupkeel/validator/TestSuite$Verdict;Lcom/example/markupkeel/markupkeel/validator/TestSuite$Verdict;)V" = some ⟨[(.object "java/lang/String"), (.object "java/lang/String"), (.object "java/lang/String"), (.object "com/example/markupkeel/markupkeel/validator/TestSuite$Verdict"), (.object "com/example/markupkeel/markupkeel/validator/TestSuite$Verdict")], none⟩) rfl) rfl (by show 2 * 0 + _ ≤ _; exact Nat.le_of_eq rfl) (hb hby at_100) (fun _ _ => ⟨rfl, e270, (by decide : 8 + 0 ≤ _), (by decide : 23 + 0 ≤ _)⟩)
    dsimp only [Pt.U, Pt.locs, Pt.cells, Pt.slots] at X292 l295 y296 z297 st298 hQ294
    subst l295 y296 z297
    obtain ⟨rfl, N299, K285, ge286, ga287⟩ := hQ294
    have N301 := Fr.app N152 N299
    have E302 := (A272.keep K285)
    have Z303 := Nat.le_trans Z278 K285.1
    have O304 := O279.keep K285 (allS ag277 all0)
    refine own_tr (S' := (T288.setTop (mkF m 103 #[iv v0, iv v1, iv v2, iv v3, iv v4, iv i, iv j, rv sA, rv a23, rv a72, rv sT, rv ex, rv ac, .unset, .unset, .unset] [(.ref a275)]))) st298 ?_
    refine own_bk (S' := (T288.setTop (mkF m 105 #[iv v0, iv v1, iv v2, iv v3, iv v4, iv i, iv j, rv sA, rv a23, rv a72, rv sT, rv ex, rv ac, rv a275, .unset, .unset] []))) (fun t_ kont => XS.astore X292.here hx rfl (hb hby at_103) rfl rfl (l' := #[iv v0, iv v1, iv v2, iv v3, iv v4, iv i, iv j, rv sA, rv a23, rv a72, rv sT, rv ex, rv ac, rv a275, .unset, .unset]) rfl kont) ?_
    obtain ⟨T305, h306, X307, e308, E309, A310, D311, -, st312⟩ := newO X292 hx hZ hown (hw _ (List.mem_of_getElem? (i := 53) rfl)) (hw _ (List.mem_of_getElem? (i := 54) rfl)) (hw _ (List.mem_of_getElem? (i := 55) rfl)) rfl (g := (mkF m 105 #[iv v0, iv v1, iv v2, iv v3, iv v4, iv i, iv j, rv sA, rv a23, rv a72, rv sT, rv ex, rv ac, rv a275, .unset, .unset] [])) rfl (hb hby at_105) (by decide) (by decide)
    obtain ⟨a313, g314⟩ : ∃ z, z = T288.heap.size := ⟨_, rfl⟩
    rw [← g314] at A310 D311 st312
    have ne315 : a275 ≠ a313 := Nat.ne_of_lt (Nat.lt_of_lt_of_le E302.lt (Nat.le_of_eq g314.symm))
    have ag316 : n0 ≤ a313 := Nat.le_trans Z303 (Nat.le_of_eq g314.symm)
    have E317 := (E302.ext E309)
    have F318 := (ge286.ext E309)
    have F319 := (ga287.ext E309)
    have Z320 := Nat.le_trans Z303 E309.1
    have O321 := O304.ext E309
    have F322 : Fld Z h306 a313 "com/example/markupkeel/markupkeel/validator/TestSuite$Outcome" "set" "Ljava/lang/String;" .null := (D311 (Or.inr (hw _ (List.mem_of_getElem? (i := 66) rfl))) (ty := (.object "java/lang/String")) (by decide +kernel))
    have F323 : Fld Z h306 a313 "com/example/markupkeel/markupkeel/validator/TestSuite$Outcome" "group" "Ljava/lang/String;" .null := (D311 (Or.inr (hw _ (List.mem_of_getElem? (i := 68) rfl))) (ty := (.object "java/lang/String")) (by decide +kernel))
    have F324 : Fld Z h306 a313 "com/example/markupkeel/markupkeel/validator/TestSuite$Outcome" "test" "Ljava/lang/String;" .null := (D311 (Or.inr (hw _ (List.mem_of_getElem? (i := 70) rfl))) (ty := (.object "java/lang/String")) (by decide +kernel))
    have F325 : Fld Z h306 a313 "com/example/markupkeel/markupkeel/validator/TestSuite$Outcome" "expected" "Lcom/example/markupkeel/markupkeel/validator/TestSuite$Verdict;" .null := (D311 (Or.inr (hw _ (List.mem_of_getElem? (i := 72) rfl))) (ty := (.object "com/example/markupkeel/markupkeel/validator/TestSuite$Verdict")) (by decide +kernel))
    have F326 : Fld Z h306 a313 "com/example/markupkeel/markupkeel/validator/TestSuite$Outcome" "actual" "Lcom/example/markupkeel/markupkeel/validator/TestSuite$Verdict;" .null := (D311 (Or.inr (hw _ (List.mem_of_getElem? (i := 74) rfl))) (ty := (.object "com/example/markupkeel/markupkeel/validator/TestSuite$Verdict")) (by decide +kernel))
    refine own_bk (S' := (T305.setTop (mkF m 108 #[iv v0, iv v1, iv v2, iv v3, iv v4, iv i, iv j, rv sA, rv a23, rv a72, rv sT, rv ex, rv ac, rv a275, .unset, .unset] [(.ref a313)]))) st312 ?_
    refine own_bk (S' := (T305.setTop (mkF m 109 #[iv v0, iv v1, iv v2, iv v3, iv v4, iv i, iv j, rv sA, rv a23, rv a72, rv sT, rv ex, rv ac, rv a275, .unset, .unset] [(.ref a313), (.ref a313)]))) (fun t_ kont => XS.dup X307.here hx rfl (hb hby at_108) rfl rfl kont) ?_
    refine own_bk (S' := (T305.setTop (mkF m 111 #[iv v0, iv v1, iv v2, iv v3, iv v4, iv i, iv j, rv sA, rv a23, rv a72, rv sT, rv ex, rv ac, rv a275, .unset, .unset] [(.ref sT), (.ref a313), (.ref a313)]))) (fun t_ kont => XS.aload X307.here hx rfl (hb hby at_109) rfl rfl kont) ?_
    refine own_bk (S' := (T305.setTop (mkF m 113 #[iv v0, iv v1, iv v2, iv v3, iv v4, iv i, iv j, rv sA, rv a23, rv a72, rv sT, rv ex, rv ac, rv a275, .unset, .unset] [(.ref sA), (.ref sT), (.ref a313), (.ref a313)]))) (fun t_ kont => XS.aload X307.here hx rfl (hb hby at_111) rfl rfl kont) ?_
    refine own_bk (S' := (T305.setTop (mkF m 115 #[iv v0, iv v1, iv v2, iv v3, iv v4, iv i, iv j, rv sA, rv a23, rv a72, rv sT, rv ex, rv ac, rv a275, .unset, .unset] [(.ref a72), (.ref sA), (.ref sT), (.ref a313), (.ref a313)]))) (fun t_ kont => XS.aload X307.here hx rfl (hb hby at_113) rfl rfl kont) ?_
    refine own_bk (S' := (T305.setTop (mkF m 117 #[iv v0, iv v1, iv v2, iv v3, iv v4, iv i, iv j, rv sA, rv a23, rv a72, rv sT, rv ex, rv ac, rv a275, .unset, .unset] [(.ref ac), (.ref a72), (.ref sA), (.ref sT), (.ref a313), (.ref a313)]))) (fun t_ kont => XS.aload X307.here hx rfl (hb hby at_115) rfl rfl kont) ?_
    refine own_bk (S' := (T305.setTop (mkF m 119 #[iv v0, iv v1, iv v2, iv v3, iv v4, iv i, iv j, rv sA, rv a23, rv a72, rv sT, rv ex, rv ac, rv a275, .unset, .unset] [(.ref ex), (.ref ac), (.ref a72), (.ref sA), (.ref sT), (.ref a313), (.ref a313)]))) (fun t_ kont => XS.aload X307.here hx rfl (hb hby at_117) rfl rfl kont) ?_
    obtain ⟨_, _, ⟨T330, L331, k332, n333⟩, -, X334, ⟨Lc335, hQ336, l337, y338, z339⟩, st340⟩ := X307.specialBack hx (y := (⟨"com/example/markupkeel/markupkeel/validator/TestSuite$Outcome", "<init>", "(Ljava/lang/String;Ljava/lang/String;Ljava/lang/String;Lcom/example/markupkeel/markupkeel/validator/TestSuite$Verdict;Lcom/example/markupkeel/markupkeel/validator/TestSuite$Verdict;)V"⟩ : MethodName)) rfl hown (mvT hZ (hw _ (List.mem_of_getElem? (i := 56) rfl))) (mvT hZ (hw _ (List.mem_of_getElem? (i := 57) rfl))) (mvT hZ (hw _ (List.mem_of_getElem? (i := 58) rfl))) (by decide) (backOf (W := 1) (rm12 l Z a0 hw [] a313 sT sA a72 ac ex h306 n0 Z320 A310 ag316 F322 F323 F324 F325 F326) hZ (hw _ (List.mem_of_getElem? (i := 58) rfl)) (hw _ (List.mem_of_getElem? (i := 55) rfl)) (by decide) (by decide)) (g := (mkF m 119 #[iv v0, iv v1, iv v2, iv v3, iv v4, iv i, iv j, rv sA, rv a23, rv a72, rv sT, rv ex, rv ac, rv a275, .unset, .unset] [(.ref ex), (.ref ac), (.ref a72), (.ref sA), (.ref sT), (.ref a313), (.ref a313)])) rfl (by rw [hml]; rfl) (Steps.refl _) (a := a313) (argsL := [(.ref sT), (.ref sA), (.ref a72), (.ref ac), (.ref ex)]) (rest := [(.ref a313)]) (lenOf (by decide +kernel : parseMethodDescriptor "(Ljava/lang/String;Ljava/lang/String;Ljava/lang/String;Lcom/example/markupkeel/markupkeel/validator/TestSuite$Verdict;Lcom/example/markupkeel/markupkeel/validator/TestSuite$Verdict;)V" = some ⟨[(.object "java/lang/String"), (.object "java/lang/String"), (.object "java/lang/String"), (.object "com/example/markupkeel/markupkeel/validator/TestSuite$Verdict"), (.object "com/example/markupkeel/markupkeel/validator/TestSuite$Verdict")], none⟩) rfl) rfl (by show 2 * 0 + _ ≤ _; exact Nat.le_of_eq rfl) (hb hby at_119) (fun _ _ => ⟨rfl, e308, (by decide : 9 + 0 ≤ _), (by decide : 28 + 0 ≤ _)⟩)
    dsimp only [Pt.U, Pt.locs, Pt.cells, Pt.slots] at X334 l337 y338 z339 st340 hQ336
    subst l337 y338 z339
    obtain ⟨rfl, N341, K327, ge328, ga329⟩ := hQ336
    have N343 := Fr.app N301 N341
    have E344 := (E317.keep K327)
    have F345 := (F318.keep K327 (ninS ne315 nin0))
    have F346 := (F319.keep K327 (ninS ne315 nin0))
    have E347 := (A310.keep K327)
    have Z348 := Nat.le_trans Z320 K327.1
    have O349 := O321.keep K327 (allS ag316 all0)
    refine own_tr (S' := (T330.setTop (mkF m 122 #[iv v0, iv v1, iv v2, iv v3, iv v4, iv i, iv j, rv sA, rv a23, rv a72, rv sT, rv ex, rv ac, rv a275, .unset, .unset] [(.ref a313)]))) st340 ?_
    refine own_bk (S' := (T330.setTop (mkF m 124 #[iv v0, iv v1, iv v2, iv v3, iv v4, iv i, iv j, rv sA, rv a23, rv a72, rv sT, rv ex, rv ac, rv a275, rv a313, .unset] []))) (fun t_ kont => XS.astore X334.here hx rfl (hb hby at_122) rfl rfl (l' := #[iv v0, iv v1, iv v2, iv v3, iv v4, iv i, iv j, rv sA, rv a23, rv a72, rv sT, rv ex, rv ac, rv a275, rv a313, .unset]) rfl kont) ?_
    refine own_bk (S' := (T330.setTop (mkF m 126 #[iv v0, iv v1, iv v2, iv v3, iv v4, iv i, iv j, rv sA, rv a23, rv a72, rv sT, rv ex, rv ac, rv a275, rv a313, .unset] [(.int i)]))) (fun t_ kont => XS.iload X334.here hx rfl (hb hby at_124) rfl kont) ?_
    refine own_bk (S' := (T330.setTop (mkF m 128 #[iv v0, iv v1, iv v2, iv v3, iv v4, iv i, iv j, rv sA, rv a23, rv a72, rv sT, rv ex, rv ac, rv a275, rv a313, .unset] [(.int j), (.int i)]))) (fun t_ kont => XS.iload X334.here hx rfl (hb hby at_126) rfl kont) ?_
    refine own_bk (S' := (T330.setTop (mkF m 135 #[iv v0, iv v1, iv v2, iv v3, iv v4, iv i, iv j, rv sA, rv a23, rv a72, rv sT, rv ex, rv ac, rv a275, rv a313, .unset] []))) (fun t_ kont => XS.icmpYes X334.here hx rfl (pc0 := 128) (pc' := 135) rfl (hb hby at_128) rfl (feq (hc153)).2 (by decide) (by decide) kont) ?_
    refine own_bk (S' := (T330.setTop (mkF m 136 #[iv v0, iv v1, iv v2, iv v3, iv v4, iv i, iv j, rv sA, rv a23, rv a72, rv sT, rv ex, rv ac, rv a275, rv a313, .unset] [(.int (0 : Int32))]))) (fun t_ kont => XS.iconst X334.here hx rfl (hb hby at_135) kont) ?_
    refine own_bk (S' := (T330.setTop (mkF m 138 #[iv v0, iv v1, iv v2, iv v3, iv v4, iv i, iv j, rv sA, rv a23, rv a72, rv sT, rv ex, rv ac, rv a275, rv a313, iv (0 : Int32)] []))) (fun t_ kont => XS.istore X334.here hx rfl (hb hby at_136) rfl (l' := #[iv v0, iv v1, iv v2, iv v3, iv v4, iv i, iv j, rv sA, rv a23, rv a72, rv sT, rv ex, rv ac, rv a275, rv a313, iv (0 : Int32)]) rfl kont) ?_
    refine own_bk (S' := (T330.setTop (mkF m 140 #[iv v0, iv v1, iv v2, iv v3, iv v4, iv i, iv j, rv sA, rv a23, rv a72, rv sT, rv ex, rv ac, rv a275, rv a313, iv (0 : Int32)] [(.ref a275)]))) (fun t_ kont => XS.aload X334.here hx rfl (hb hby at_138) rfl rfl kont) ?_
    obtain ⟨cqq361, kqq361, q361a, q361b, q361c⟩ := isOf hZ rfl E344
    obtain ⟨_, _, ⟨T350, L351, k352, n353⟩, -, X354, ⟨Lc355, hQ356, l357, y358, z359⟩, st360⟩ := X334.virtualBack hx (y := (⟨"com/example/markupkeel/markupkeel/validator/TestSuite$Outcome", "agrees", "()Z"⟩ : MethodName)) (z := (⟨"com/example/markupkeel/markupkeel/validator/TestSuite$Outcome", "agrees", "()Z"⟩ : MethodName)) hown (mvT hZ (hw _ (List.mem_of_getElem? (i := 75) rfl))) (mvT hZ (hw _ (List.mem_of_getElem? (i := 76) rfl))) (notFace_of_selects (args := #[]) (mvT hZ (hw _ (List.mem_of_getElem? (i := 78) rfl)))) (mvT hZ (hw _ (List.mem_of_getElem? (i := 78) rfl))) (mvT hZ (hw _ (List.mem_of_getElem? (i := 77) rfl))) (by decide) (backOf (W := 0) (rm14 l Z a0 hw [] a275 ex ac (0 : Int32) T330.heap n0 Z348 F345 F346 (by simp [hea, Ne.symm hea])) hZ (hw _ (List.mem_of_getElem? (i := 79) rfl)) (hw _ (List.mem_of_getElem? (i := 55) rfl)) (by decide) (by decide)) q361a q361c (g := (mkF m 140 #[iv v0, iv v1, iv v2, iv v3, iv v4, iv i, iv j, rv sA, rv a23, rv a72, rv sT, rv ex, rv ac, rv a275, rv a313, iv (0 : Int32)] [(.ref a275)])) rfl (by rw [hml]; rfl) (Steps.refl _) (argsL := []) (rest := []) (lenOf (by decide +kernel : parseMethodDescriptor "()Z" = some ⟨[], some .boolean⟩) rfl) rfl (by show 2 * 0 + _ ≤ _; exact Nat.le_of_eq rfl) (hb hby at_140) (fun _ _ => ⟨rfl, rfl, (by decide : 9 + 0 ≤ _), (by decide : 28 + 0 ≤ _)⟩)
    dsimp only [Pt.U, Pt.locs, Pt.cells, Pt.slots] at X354 l357 y358 z359 st360 hQ356
    subst l357 y358 z359
    obtain ⟨rfl, N362, e363⟩ := hQ356
    have N364 := Fr.app N343 N362
    refine own_tr (S' := (T350.setTop (mkF m 143 #[iv v0, iv v1, iv v2, iv v3, iv v4, iv i, iv j, rv sA, rv a23, rv a72, rv sT, rv ex, rv ac, rv a275, rv a313, iv (0 : Int32)] [(.int (0 : Int32))]))) st360 ?_
    refine own_bk (S' := (T350.setTop (mkF m 145 #[iv v0, iv v1, iv v2, iv v3, iv v4, iv i, iv j, rv sA, rv a23, rv a72, rv sT, rv ex, rv ac, rv a275, rv a313, iv (0 : Int32)] [(.int (0 : Int32)), (.int (0 : Int32))]))) (fun t_ kont => XS.iload X354.here hx rfl (hb hby at_143) rfl kont) ?_
    refine own_bk (S' := (T350.setTop (mkF m 148 #[iv v0, iv v1, iv v2, iv v3, iv v4, iv i, iv j, rv sA, rv a23, rv a72, rv sT, rv ex, rv ac, rv a275, rv a313, iv (0 : Int32)] []))) (fun t_ kont => XS.icmpNo X354.here hx rfl (hb hby at_145) rfl (teq (by decide : ((0 : Int32)) = ((0 : Int32)))).2 kont) ?_
    refine own_bk (S' := (T350.setTop (mkF m 150 #[iv v0, iv v1, iv v2, iv v3, iv v4, iv i, iv j, rv sA, rv a23, rv a72, rv sT, rv ex, rv ac, rv a275, rv a313, iv (0 : Int32)] [(.ref a313)]))) (fun t_ kont => XS.aload X354.here hx rfl (hb hby at_148) rfl rfl kont) ?_
    obtain ⟨cqq376, kqq376, q376a, q376b, q376c⟩ := isOf hZ e363 E347
    obtain ⟨_, _, ⟨T365, L366, k367, n368⟩, -, X369, ⟨Lc370, hQ371, l372, y373, z374⟩, st375⟩ := X354.virtualBack hx (y := (⟨"com/example/markupkeel/markupkeel/validator/TestSuite$Outcome", "agrees", "()Z"⟩ : MethodName)) (z := (⟨"com/example/markupkeel/markupkeel/validator/TestSuite$Outcome", "agrees", "()Z"⟩ : MethodName)) hown (mvT hZ (hw _ (List.mem_of_getElem? (i := 75) rfl))) (mvT hZ (hw _ (List.mem_of_getElem? (i := 76) rfl))) (notFace_of_selects (args := #[]) (mvT hZ (hw _ (List.mem_of_getElem? (i := 78) rfl)))) (mvT hZ (hw _ (List.mem_of_getElem? (i := 78) rfl))) (mvT hZ (hw _ (List.mem_of_getElem? (i := 77) rfl))) (by decide) (backOf (W := 0) (rm14 l Z a0 hw [] a313 ac ex (0 : Int32) T330.heap n0 Z348 ge328 ga329 (by simp [hea, Ne.symm hea])) hZ (hw _ (List.mem_of_getElem? (i := 79) rfl)) (hw _ (List.mem_of_getElem? (i := 55) rfl)) (by decide) (by decide)) q376a q376c (g := (mkF m 150 #[iv v0, iv v1, iv v2, iv v3, iv v4, iv i, iv j, rv sA, rv a23, rv a72, rv sT, rv ex, rv ac, rv a275, rv a313, iv (0 : Int32)] [(.ref a313)])) rfl (by rw [hml]; rfl) (Steps.refl _) (argsL := []) (rest := []) (lenOf (by decide +kernel : parseMethodDescriptor "()Z" = some ⟨[], some .boolean⟩) rfl) rfl (by show 2 * 0 + _ ≤ _; exact Nat.le_of_eq rfl) (hb hby at_150) (fun _ _ => ⟨rfl, e363, (by decide : 9 + 0 ≤ _), (by decide : 28 + 0 ≤ _)⟩)
    dsimp only [Pt.U, Pt.locs, Pt.cells, Pt.slots] at X369 l372 y373 z374 st375 hQ371
    subst l372 y373 z374
    obtain ⟨rfl, N377, e378⟩ := hQ371
    have N379 := Fr.app N364 N377
    refine own_tr (S' := (T365.setTop (mkF m 153 #[iv v0, iv v1, iv v2, iv v3, iv v4, iv i, iv j, rv sA, rv a23, rv a72, rv sT, rv ex, rv ac, rv a275, rv a313, iv (0 : Int32)] [(.int (0 : Int32))]))) st375 ?_
    refine own_bk (S' := (T365.setTop (mkF m 155 #[iv v0, iv v1, iv v2, iv v3, iv v4, iv i, iv j, rv sA, rv a23, rv a72, rv sT, rv ex, rv ac, rv a275, rv a313, iv (0 : Int32)] [(.int (0 : Int32)), (.int (0 : Int32))]))) (fun t_ kont => XS.iload X369.here hx rfl (hb hby at_153) rfl kont) ?_
    refine own_bk (S' := (T365.setTop (mkF m 158 #[iv v0, iv v1, iv v2, iv v3, iv v4, iv i, iv j, rv sA, rv a23, rv a72, rv sT, rv ex, rv ac, rv a275, rv a313, iv (0 : Int32)] []))) (fun t_ kont => XS.icmpNo X369.here hx rfl (hb hby at_155) rfl (teq (by decide : ((0 : Int32)) = ((0 : Int32)))).2 kont) ?_
    refine own_bk (S' := (T365.setTop (mkF m 159 #[iv v0, iv v1, iv v2, iv v3, iv v4, iv i, iv j, rv sA, rv a23, rv a72, rv sT, rv ex, rv ac, rv a275, rv a313, iv (0 : Int32)] [(.int (1 : Int32))]))) (fun t_ kont => XS.iconst X369.here hx rfl (hb hby at_158) kont) ?_
    refine own_bk (S' := (T365.setTop (mkF m 163 #[iv v0, iv v1, iv v2, iv v3, iv v4, iv i, iv j, rv sA, rv a23, rv a72, rv sT, rv ex, rv ac, rv a275, rv a313, iv (0 : Int32)] [(.int (1 : Int32))]))) (fun t_ kont => XS.goto X369.here hx rfl (pc0 := 159) (pc' := 163) rfl (hb hby at_159) (by decide) (by decide) kont) ?_
    exact own_retN X369 hx hlk (t := .boolean) (w := (1 : Int32)) Bd.returns (by simp) (hb hby at_163) rfl ⟨rfl, N379⟩ (by decide) (by decide)
set_option maxRecDepth 65536 in
set_option maxHeartbeats 40000000 in
theorem comes_1 {Post : Tables → Env → Array Value → State → Outcome → State → Prop} (hpost : ∀ tb e args s v u, (limb_1_1.after args s (.returned v) u = true ∧ limb_1_2.after args s (.returned v) u = true ∧ True) → FrameEnd s (.returned v) u (Jvm.fieldLocs frame_1_writes args s ++ Jvm.arrayLocs frame_1_arrays args s ++ Jvm.staticLocs frame_1_statics s) 32 128 → Post tb e args s (.returned v) u) :
    ArmFor flags0 classFile x code maxLocals ret World_1 tables_1 room_1 Calls_1 rest_1 Pre_1 Post := by
  intro l hfl _ _ p e ha hc hk s m args below hf hA hF happ hP
  obtain ⟨hcalls, hrest, hpre⟩ := hP
  obtain ⟨-, -, -, hnamed, -, -, -, hat⟩ := (Spec.applies_iff hf).mp happ
  obtain ⟨hg, hn⟩ := and_e (Cond.before_iff.mp (show (Jvm.Cond.and given_1 narrow_1).before args s = true from hpre))
  obtain ⟨g0, hg⟩ := and_e hg
  obtain ⟨g1, hg⟩ := and_e hg
  obtain ⟨g2, hg⟩ := and_e hg
  obtain ⟨g3, hg⟩ := and_e hg
  obtain ⟨g4, hg⟩ := and_e hg
  have g5 := hg
  obtain ⟨w0, w1, w2, w3, w4, rfl⟩ : ∃ w0 w1 w2 w3 w4 : Value, args = #[w0, w1, w2, w3, w4] := by
    have hs : args.size = 5 := by simpa [Cond.value, given_1] using g0
    obtain ⟨L⟩ := args
    match L, hs with
    | [w0, w1, w2, w3, w4], _ => exact ⟨w0, w1, w2, w3, w4, rfl⟩
  have hw := fun d (hd : d ∈ tables_1) => atoms_spec (ws := Jvm.Cond.code x code maxLocals ret :: tables_1) hat d (List.mem_cons_of_mem _ hd)
  obtain ⟨hsets, hown0⟩ := atoms_of _ (rest_1_c_eq ▸ (show rest_1_c.before _ s = true from hrest))
  have hfit : Fit s := fun {y c} hc i hi => by
    obtain ⟨ha, rfl⟩ := Array.getElem?_eq_some_iff.mp hc
    have q := List.all_eq_true.mp ((Array.all_eq_true_iff_forall_mem.mp hF) _ (Array.getElem_mem ha)) i (List.mem_range.mpr hi)
    simpa [Array.getElem?_eq_getElem hi] using q
  obtain ⟨v0, ev0⟩ := is_v g1
  obtain rfl : w0 = (.int v0) := Option.some.inj ev0
  obtain ⟨v1, ev1⟩ := is_v g2
  obtain rfl : w1 = (.int v1) := Option.some.inj ev1
  obtain ⟨v2, ev2⟩ := is_v g3
  obtain rfl : w2 = (.int v2) := Option.some.inj ev2
  obtain ⟨v3, ev3⟩ := is_v g4
  obtain rfl : w3 = (.int v3) := Option.some.inj ev3
  obtain ⟨v4, ev4⟩ := is_v g5
  obtain rfl : w4 = (.int v4) := Option.some.inj ev4
  obtain ⟨c0, hn⟩ := and_e hn
  obtain ⟨c1, hn⟩ := and_e hn
  obtain ⟨c2, hn⟩ := and_e hn
  obtain ⟨c3, hn⟩ := and_e hn
  obtain ⟨c4, hn⟩ := and_e hn
  obtain ⟨c5, hn⟩ := and_e hn
  obtain ⟨c6, hn⟩ := and_e hn
  have c7 := hn
  obtain ⟨r_VALID, ev_VALID⟩ := exa_v c0
  have G_VALID : own_E s s.heap r_VALID "com/example/markupkeel/markupkeel/validator/TestSuite$Verdict" "VALID" "Lcom/example/markupkeel/markupkeel/validator/TestSuite$Verdict;" 0 := ⟨Sta.start ev_VALID (Or.inr ⟨(hw _ (List.mem_of_getElem? (i := 49) rfl)), (hw _ (List.mem_of_getElem? (i := 50) rfl))⟩), Exa.start ev_VALID c0, Fld.start (own_fldInt c2 ev_VALID)⟩
  obtain ⟨r_NOT_CHECKED, ev_NOT_CHECKED⟩ := exa_v c1
  have G_NOT_CHECKED : own_E s s.heap r_NOT_CHECKED "com/example/markupkeel/markupkeel/validator/TestSuite$Verdict" "NOT_CHECKED" "Lcom/example/markupkeel/markupkeel/validator/TestSuite$Verdict;" 3 := ⟨Sta.start ev_NOT_CHECKED (Or.inr ⟨(hw _ (List.mem_of_getElem? (i := 49) rfl)), (hw _ (List.mem_of_getElem? (i := 52) rfl))⟩), Exa.start ev_NOT_CHECKED c1, Fld.start (own_fldInt c3 ev_NOT_CHECKED)⟩
  obtain ⟨r_NOT_SUPPORTED, ev_NOT_SUPPORTED⟩ := exa_v c4
  have G_NOT_SUPPORTED : own_E s s.heap r_NOT_SUPPORTED "com/example/markupkeel/markupkeel/validator/TestSuite$Verdict" "NOT_SUPPORTED" "Lcom/example/markupkeel/markupkeel/validator/TestSuite$Verdict;" 2 := ⟨Sta.start ev_NOT_SUPPORTED (Or.inr ⟨(hw _ (List.mem_of_getElem? (i := 49) rfl)), (hw _ (List.mem_of_getElem? (i := 81) rfl))⟩), Exa.start ev_NOT_SUPPORTED c4, Fld.start (own_fldInt c5 ev_NOT_SUPPORTED)⟩
  obtain ⟨r_INVALID, ev_INVALID⟩ := exa_v c6
  have G_INVALID : own_E s s.heap r_INVALID "com/example/markupkeel/markupkeel/validator/TestSuite$Verdict" "INVALID" "Lcom/example/markupkeel/markupkeel/validator/TestSuite$Verdict;" 1 := ⟨Sta.start ev_INVALID (Or.inr ⟨(hw _ (List.mem_of_getElem? (i := 49) rfl)), (hw _ (List.mem_of_getElem? (i := 83) rfl))⟩), Exa.start ev_INVALID c6, Fld.start (own_fldInt c7 ev_INVALID)⟩
  have n5 := not_v (Cond.before_iff.mp (hsets _ (List.mem_of_getElem? (i := 2) rfl)))
  obtain ⟨cz, ecz⟩ := is_v (Cond.before_iff.mp (hsets _ (List.mem_of_getElem? (i := 1) rfl)))
  have SC : Sta s s.heap "java/lang/String" "COMPACT_STRINGS" "Z" (.int cz) := Sta.start ecz (Or.inl (hsets _ (List.mem_of_getElem? (i := 0) rfl)))
  have hcz : ¬ (cz = (0 : Int32)) := gotF (Cond.eq_ints ecz (Term.int_eval (0))) n5
  obtain ⟨n, o, h1, h2, h3, _, L, rfl, ⟨rfl, N⟩, hq⟩ := rm0 l s _ hw tables_1 v0 v1 v2 v3 v4 cz r_VALID r_INVALID r_NOT_SUPPORTED r_NOT_CHECKED s.heap s.heap.size (Nat.le_refl _) (Old.start s) SC hcz G_VALID G_INVALID G_NOT_SUPPORTED G_NOT_CHECKED p e ha hc hk s m _ below hf ((Spec.applies_iff_loose hf).mp happ).1 ⟨rfl, State.Warmed39.refl s, rfl⟩ trivial
  refine ⟨n, _, h1, h2, h3, hpost _ _ _ _ _ _ ⟨Cond.after_iff.mpr rfl, Cond.after_iff.mpr (eq_i res_at (Term.int_eval (1)) rfl), trivial⟩ ⟨hq.1, hq.2.1, (hq.2.2.sift fun y hy => Or.inr (N y hy)).mono (by decide) (by decide)⟩⟩
theorem main_1_1 : Claimed_1_1 := comes_1 fun _ _ _ _ _ _ h hF => ⟨h.1, hF⟩
theorem main_1_2 : Claimed_1_2 := comes_1 fun _ _ _ _ _ _ h hF => ⟨h.2.1, hF⟩
end Jvm.Pilot.@@N@@
namespace Jvm.Pilot.@@N@@
open Jvm Jvm.ClassFile Sem Op Lib Jvm.Free Jvm.Stand Jvm.Pilot.@@N@@.Jvm.D
/-! MADE BY PROGRAM (witnessworld.py) out of the Statement's table words and the real class files: 23 classes; the members and pool entries that the words name. The judged class is class 1, her method 2. -/
namespace start1
open Jvm.ClassFile
def u (s : String) : CpInfo := .utf8 (stringToUtf16 s)
/-- a pool by its gaps: so many unusable entries, then the entry; so many at the end -/
def gap : Nat → List CpInfo → List CpInfo
  | 0, r => r
  | n + 1, r => .unusable :: gap n r
def poolList (es : List (Nat × CpInfo)) (last : Nat) : List CpInfo := es.foldr (fun e r => gap e.1 (e.2 :: r)) (gap last [])
def pool (es : List (Nat × CpInfo)) (last : Nat) : Array CpInfo := ⟨poolList es last⟩
def fileOf (pool : Array CpInfo) (this : Nat) (attrs : Array Attribute := #[]) (ms : Array MethodInfo := #[]) (fl : Nat := 33) (sup : Nat := 0) (ifs : Array Nat := #[]) (fds : Array FieldInfo := #[]) : ClassFile where
  minorVersion := 0
  majorVersion := 65
  constantPool := pool
  accessFlags := fl
  thisClass := this
  superClass := sup
  interfaces := ifs
  fields := fds
  methods := ms
  attributes := attrs
def plain (name : String) (sup : Option ClassId) : Class where
  name := name
  kind := .ordinary
  loader := none
  accessFlags := 33
  super := sup
  interfaces := #[]
  cf := none
  fields := #[]
  methods := #[]
  instanceTypes := #[]
  staticTypes := #[]
  resolved := #[]
  callSites := []
  init := .initialized
  statics := none
  mirror := none

def pool0 : Array CpInfo := pool [(5, u "<init>"), (0, u "()V"), (1, .class_ 10), (1, u "java/lang/Object")] 113

def k0c0 : Code := { maxStack := 0, maxLocals := 1, code := object_method_1_code, exceptionTable := #[], attributes := #[] }
def k0m0 : Method := { name := "<init>", desc := "()V", sig := { parameters := [], returnType := none }, accessFlags := 1, code := some k0c0 }
/-- java/lang/Object -/
def k0 : Class := { plain "java/lang/Object" none with
  accessFlags := 33
  interfaces := #[]
  cf := some (fileOf pool0 8 #[] #[{ accessFlags := 1, nameIndex := 5, descriptorIndex := 6, attributes := #[] }] 33 0 #[] #[])
  fields := #[]
  methods := #[k0m0]
  instanceTypes := #[]
  staticTypes := #[]
  resolved := Array.replicate 124 none
  statics := none }

def pool1 : Array CpInfo := pool [(2, .class_ 4), (1, u "java/lang/Object"), (0, u "<init>"), (0, u "()V"), (0, .fieldref 8 9), (0, .class_ 10), (0, .nameAndType 11 12), (0, u "com/example/markupkeel/markupkeel/validator/TestSuite$Verdict"), (0, u "VALID"), (0, u "Lcom/example/markupkeel/markupkeel/validator/TestSuite$Verdict;"), (0, .fieldref 8 14), (0, .nameAndType 15 12), (0, u "INVALID"), (0, .fieldref 8 17), (0, .nameAndType 18 12), (0, u "NOT_SUPPORTED"), (0, .fieldref 8 20), (0, .nameAndType 21 12), (0, u "NOT_CHECKED"), (0, .methodref 23 24), (0, .class_ 25), (0, .nameAndType 26 27), (0, u "java/lang/String"), (0, u "valueOf"), (0, u "(C)Ljava/lang/String;"), (0, .methodref 23 29), (0, .nameAndType 5 30), (0, u "([C)V"), (0, .methodref 32 33), (0, .class_ 34), (0, .nameAndType 35 36), (0, u "com/example/markupkeel/markupkeel/validator/OutcomeAgreesPinLaw"), (0, u "verdict"), (0, u "(I)Lcom/example/markupkeel/markupkeel/validator/TestSuite$Verdict;"), (0, .class_ 38), (0, u "com/example/markupkeel/markupkeel/validator/TestSuite$Outcome"), (0, .methodref 37 40), (0, .nameAndType 5 41), (0, u "(Ljava/lang/String;Ljava/lang/String;Ljava/lang/String;Lcom/example/markupkeel/markupkeel/validator/TestSuite$Verdict;Lcom/example/markupkeel/markupkeel/validator/TestSuite$Verdict;)V"), (0, .methodref 37 43), (0, .nameAndType 44 45), (0, u "agrees"), (0, u "()Z"), (3, u "law"), (0, u "(IIIII)Z")] 9

def k1m0 : Method := { name := "<init>", desc := "()V", sig := { parameters := [], returnType := none }, accessFlags := 2, code := none }
def k1c1 : Code := { maxStack := 2, maxLocals := 1, code := method_2_code, exceptionTable := #[], attributes := #[] }
def k1m1 : Method := { name := "verdict", desc := "(I)Lcom/example/markupkeel/markupkeel/validator/TestSuite$Verdict;", sig := { parameters := [.int], returnType := some (.object "com/example/markupkeel/markupkeel/validator/TestSuite$Verdict") }, accessFlags := 10, code := some k1c1 }
def k1c2 : Code := { maxStack := 7, maxLocals := 16, code := code, exceptionTable := #[], attributes := #[] }
def k1m2 : Method := { name := "law", desc := "(IIIII)Z", sig := { parameters := [.int, .int, .int, .int, .int], returnType := some .boolean }, accessFlags := 9, code := some k1c2 }
/-- com/example/markupkeel/markupkeel/validator/OutcomeAgreesPinLaw -/
def k1 : Class := { plain "com/example/markupkeel/markupkeel/validator/OutcomeAgreesPinLaw" (some 0) with
  accessFlags := 49
  interfaces := #[]
  cf := some (fileOf pool1 32 #[] #[{ accessFlags := 2, nameIndex := 5, descriptorIndex := 6, attributes := #[] }, { accessFlags := 10, nameIndex := 35, descriptorIndex := 36, attributes := #[] }, { accessFlags := 9, nameIndex := 49, descriptorIndex := 50, attributes := #[] }] 49 2 #[] #[])
  fields := #[]
  methods := #[k1m0, k1m1, k1m2]
  instanceTypes := #[]
  staticTypes := #[]
  resolved := Array.replicate 60 none
  statics := none }

def pool2 : Array CpInfo := pool [(1, .class_ 2), (0, u "java/io/Serializable"), (0, .class_ 4), (0, u "java/lang/Object")] 2

/-- java/io/Serializable -/
def k2 : Class := { plain "java/io/Serializable" (some 0) with
  accessFlags := 1537
  interfaces := #[]
  cf := some (fileOf pool2 1 #[] #[] 1537 3 #[] #[])
  fields := #[]
  methods := #[]
  instanceTypes := #[]
  staticTypes := #[]
  resolved := Array.replicate 7 none
  statics := none }

def pool3 : Array CpInfo := pool [(1, .class_ 2), (0, u "java/lang/Comparable"), (0, .class_ 4), (0, u "java/lang/Object")] 7

/-- java/lang/Comparable -/
def k3 : Class := { plain "java/lang/Comparable" (some 0) with
  accessFlags := 1537
  interfaces := #[]
  cf := some (fileOf pool3 1 #[] #[] 1537 3 #[] #[])
  fields := #[]
  methods := #[]
  instanceTypes := #[]
  staticTypes := #[]
  resolved := Array.replicate 12 none
  statics := none }

def pool4 : Array CpInfo := pool [(2, .class_ 4), (1, u "java/lang/CharSequence"), (42, .class_ 48), (0, u "java/lang/CharSequence$1CodePointIterator"), (10, .class_ 60), (0, u "java/lang/CharSequence$1CharIterator"), (5, .class_ 67), (0, u "java/lang/Object")] 63

/-- java/lang/CharSequence -/
def k4 : Class := { plain "java/lang/CharSequence" (some 0) with
  accessFlags := 1537
  interfaces := #[]
  cf := some (fileOf pool4 2 #[.nestMembers #[47, 59]] #[] 1537 66 #[] #[])
  fields := #[]
  methods := #[]
  instanceTypes := #[]
  staticTypes := #[]
  resolved := Array.replicate 131 none
  statics := none }

def pool5 : Array CpInfo := pool [(1, .class_ 2), (0, u "java/lang/constant/Constable"), (0, .class_ 4), (0, u "java/lang/Object")] 6

/-- java/lang/constant/Constable -/
def k5 : Class := { plain "java/lang/constant/Constable" (some 0) with
  accessFlags := 1537
  interfaces := #[]
  cf := some (fileOf pool5 1 #[] #[] 1537 3 #[] #[])
  fields := #[]
  methods := #[]
  instanceTypes := #[]
  staticTypes := #[]
  resolved := Array.replicate 11 none
  statics := none }

def pool6 : Array CpInfo := pool [(1, .class_ 2), (0, u "java/lang/constant/ConstantDesc"), (0, .class_ 4), (0, u "java/lang/Object")] 32

/-- java/lang/constant/ConstantDesc -/
def k6 : Class := { plain "java/lang/constant/ConstantDesc" (some 0) with
  accessFlags := 1537
  interfaces := #[]
  cf := some (fileOf pool6 1 #[] #[] 1537 3 #[] #[])
  fields := #[]
  methods := #[]
  instanceTypes := #[]
  staticTypes := #[]
  resolved := Array.replicate 37 none
  statics := none }

def pool7 : Array CpInfo := pool [(1, .methodref 2 3), (0, .class_ 4), (0, .nameAndType 5 6), (0, u "java/lang/Object"), (0, u "<init>"), (0, u "()V"), (2, .fieldref 10 11), (0, .class_ 12), (0, .nameAndType 13 14), (0, u "java/lang/String"), (0, u "value"), (0, u "[B"), (0, .fieldref 10 16), (0, .nameAndType 17 18), (0, u "coder"), (0, u "B"), (2, u "hash"), (0, u "I"), (2, u "hashIsZero"), (0, u "Z"), (0, .methodref 10 28), (0, .nameAndType 5 29), (0, u "([CIILjava/lang/Void;)V"), (8, .fieldref 10 39), (0, .nameAndType 40 26), (0, u "COMPACT_STRINGS"), (1, .class_ 44), (1, u "java/lang/StringUTF16"), (0, u "compress"), (1, .methodref 42 48), (0, .nameAndType 49 50), (0, u "coderFromArrayLen"), (0, u "([BI)B"), (2, u "toBytes"), (53, .class_ 109), (1, u "java/lang/StringLatin1"), (67, .methodref 42 178), (0, .nameAndType 45 179), (0, u "([CII)[B"), (29, .methodref 10 210), (0, .nameAndType 5 211), (0, u "([BB)V"), (157, u "(C)Z"), (205, .class_ 576), (0, u "java/lang/CharSequence"), (22, u "CASE_INSENSITIVE_ORDER"), (0, u "Ljava/util/Comparator;"), (181, u "valueOf"), (0, u "(C)Ljava/lang/String;"), (226, u "([C)V"), (4, .methodref 107 1016), (0, .nameAndType 1017 369), (0, u "canEncode"), (0, .methodref 107 1019), (0, .nameAndType 53 1020), (0, u "(C)[B"), (80, u "serialPersistentFields"), (0, u "[Ljava/io/ObjectStreamField;"), (0, .class_ 1104), (0, u "java/lang/String$CaseInsensitiveComparator"), (1, .class_ 1107), (0, u "java/io/Serializable"), (0, .class_ 1109), (0, u "java/lang/Comparable"), (0, .class_ 1111), (0, u "java/lang/constant/Constable"), (0, .class_ 1113), (0, u "java/lang/constant/ConstantDesc"), (2, u "serialVersionUID"), (0, u "J"), (3, u "REPL"), (0, u "C"), (2, u "LATIN1"), (1, u "UTF16")] 323

def k7m0 : Method := { name := "<init>", desc := "()V", sig := { parameters := [], returnType := none }, accessFlags := 1, code := none }
def k7c1 : Code := { maxStack := 5, maxLocals := 2, code := jdk_42_method_3_code, exceptionTable := #[], attributes := #[] }
def k7m1 : Method := { name := "<init>", desc := "([C)V", sig := { parameters := [(.array .char)], returnType := none }, accessFlags := 1, code := some k7c1 }
def k7c2 : Code := { maxStack := 4, maxLocals := 1, code := jdk_42_method_139_code, exceptionTable := #[], attributes := #[] }
def k7m2 : Method := { name := "valueOf", desc := "(C)Ljava/lang/String;", sig := { parameters := [.char], returnType := some (.object "java/lang/String") }, accessFlags := 9, code := some k7c2 }
def k7c3 : Code := { maxStack := 4, maxLocals := 6, code := jdk_42_method_149_code, exceptionTable := #[], attributes := #[] }
def k7m3 : Method := { name := "<init>", desc := "([CIILjava/lang/Void;)V", sig := { parameters := [(.array .char), .int, .int, (.object "java/lang/Void")], returnType := none }, accessFlags := 2, code := some k7c3 }
def k7c4 : Code := { maxStack := 2, maxLocals := 3, code := jdk_42_method_151_code, exceptionTable := #[], attributes := #[] }
def k7m4 : Method := { name := "<init>", desc := "([BB)V", sig := { parameters := [(.array .byte), .byte], returnType := none }, accessFlags := 0, code := some k7c4 }
/-- java/lang/String -/
def k7 : Class := { plain "java/lang/String" (some 0) with
  accessFlags := 49
  interfaces := #[2, 3, 4, 5, 6]
  cf := some (fileOf pool7 10 #[.nestMembers #[1103]] #[{ accessFlags := 1, nameIndex := 5, descriptorIndex := 6, attributes := #[] }, { accessFlags := 1, nameIndex := 5, descriptorIndex := 1010, attributes := #[] }, { accessFlags := 9, nameIndex := 782, descriptorIndex := 783, attributes := #[] }, { accessFlags := 2, nameIndex := 5, descriptorIndex := 29, attributes := #[] }, { accessFlags := 0, nameIndex := 5, descriptorIndex := 211, attributes := #[] }] 49 2 #[1106, 1108, 575, 1110, 1112] #[{ accessFlags := 18, nameIndex := 13, descriptorIndex := 14, attributes := #[] }, { accessFlags := 18, nameIndex := 17, descriptorIndex := 18, attributes := #[] }, { accessFlags := 2, nameIndex := 21, descriptorIndex := 22, attributes := #[] }, { accessFlags := 2, nameIndex := 25, descriptorIndex := 26, attributes := #[] }, { accessFlags := 26, nameIndex := 1116, descriptorIndex := 1117, attributes := #[] }, { accessFlags := 24, nameIndex := 40, descriptorIndex := 26, attributes := #[] }, { accessFlags := 26, nameIndex := 1101, descriptorIndex := 1102, attributes := #[] }, { accessFlags := 26, nameIndex := 1121, descriptorIndex := 1122, attributes := #[] }, { accessFlags := 25, nameIndex := 599, descriptorIndex := 600, attributes := #[] }, { accessFlags := 24, nameIndex := 1125, descriptorIndex := 18, attributes := #[] }, { accessFlags := 24, nameIndex := 1127, descriptorIndex := 18, attributes := #[] }])
  fields := #[{ name := "value", type := (.array .byte), accessFlags := 18, slot := 0, constantValue := 0 }, { name := "coder", type := .byte, accessFlags := 18, slot := 1, constantValue := 0 }, { name := "hash", type := .int, accessFlags := 2, slot := 2, constantValue := 0 }, { name := "hashIsZero", type := .boolean, accessFlags := 2, slot := 3, constantValue := 0 }, { name := "serialVersionUID", type := .long, accessFlags := 26, slot := 0, constantValue := 0 }, { name := "COMPACT_STRINGS", type := .boolean, accessFlags := 24, slot := 1, constantValue := 0 }, { name := "serialPersistentFields", type := (.array (.object "java/io/ObjectStreamField")), accessFlags := 26, slot := 2, constantValue := 0 }, { name := "REPL", type := .char, accessFlags := 26, slot := 3, constantValue := 0 }, { name := "CASE_INSENSITIVE_ORDER", type := (.object "java/util/Comparator"), accessFlags := 25, slot := 4, constantValue := 0 }, { name := "LATIN1", type := .byte, accessFlags := 24, slot := 5, constantValue := 0 }, { name := "UTF16", type := .byte, accessFlags := 24, slot := 6, constantValue := 0 }]
  methods := #[k7m0, k7m1, k7m2, k7m3, k7m4]
  instanceTypes := #[(.array .byte), .byte, .int, .boolean]
  staticTypes := #[.long, .boolean, (.array (.object "java/io/ObjectStreamField")), .char, (.object "java/util/Comparator"), .byte, .byte]
  resolved := Array.replicate 1451 none
  statics := some 0 }

def pool8 : Array CpInfo := pool [(4, .class_ 6), (1, u "java/lang/Object"), (0, u "<init>"), (0, u "()V"), (5, .class_ 16), (1, u "java/lang/StringLatin1"), (73, u "canEncode"), (14, u "(C)Z"), (15, u "$assertionsDisabled"), (0, u "Z"), (98, .class_ 223), (1, u "java/lang/StringLatin1$LinesSpliterator"), (156, u "toBytes"), (1, u "(C)[B"), (7, .class_ 391), (0, u "java/lang/StringLatin1$CharsSpliterator")] 3

def k8m0 : Method := { name := "<init>", desc := "()V", sig := { parameters := [], returnType := none }, accessFlags := 0, code := none }
def k8c1 : Code := { maxStack := 2, maxLocals := 1, code := jdk_43_method_3_code, exceptionTable := #[], attributes := #[] }
def k8m1 : Method := { name := "canEncode", desc := "(C)Z", sig := { parameters := [.char], returnType := some .boolean }, accessFlags := 9, code := some k8c1 }
def k8c2 : Code := { maxStack := 4, maxLocals := 1, code := jdk_43_method_46_code, exceptionTable := #[], attributes := #[] }
def k8m2 : Method := { name := "toBytes", desc := "(C)[B", sig := { parameters := [.char], returnType := some (.array .byte) }, accessFlags := 9, code := some k8c2 }
/-- java/lang/StringLatin1 -/
def k8 : Class := { plain "java/lang/StringLatin1" (some 0) with
  accessFlags := 48
  interfaces := #[]
  cf := some (fileOf pool8 14 #[.nestMembers #[390, 221]] #[{ accessFlags := 0, nameIndex := 7, descriptorIndex := 8, attributes := #[] }, { accessFlags := 9, nameIndex := 90, descriptorIndex := 105, attributes := #[] }, { accessFlags := 9, nameIndex := 380, descriptorIndex := 382, attributes := #[] }] 48 4 #[] #[{ accessFlags := 4120, nameIndex := 121, descriptorIndex := 122, attributes := #[] }])
  fields := #[{ name := "$assertionsDisabled", type := .boolean, accessFlags := 4120, slot := 0, constantValue := 0 }]
  methods := #[k8m0, k8m1, k8m2]
  instanceTypes := #[]
  staticTypes := #[.boolean]
  resolved := Array.replicate 395 none
  statics := none }

def pool9 : Array CpInfo := pool [(6, .class_ 8), (1, u "java/lang/Object"), (0, u "<init>"), (0, u "()V"), (1, .class_ 14), (1, u "java/lang/StringUTF16"), (31, u "$assertionsDisabled"), (0, u "Z"), (13, u "HI_BYTE_SHIFT"), (0, u "I"), (2, u "LO_BYTE_SHIFT"), (49, .methodref 12 116), (0, .nameAndType 117 118), (0, u "compress"), (0, u "([CI[BII)I"), (3, u "([CII)[B"), (138, u "coderFromArrayLen"), (0, u "([BI)B"), (106, .class_ 371), (1, u "java/lang/StringUTF16$LinesSpliterator"), (58, u "MAX_LENGTH"), (196, .class_ 628), (0, u "java/lang/StringUTF16$CodePointsSpliterator"), (0, .class_ 630), (0, u "java/lang/StringUTF16$CharsSpliterator")] 4

def k9m0 : Method := { name := "<init>", desc := "()V", sig := { parameters := [], returnType := none }, accessFlags := 0, code := none }
def k9c1 : Code := { maxStack := 2, maxLocals := 2, code := jdk_52_method_15_code, exceptionTable := #[], attributes := #[] }
def k9m1 : Method := { name := "coderFromArrayLen", desc := "([BI)B", sig := { parameters := [(.array .byte), .int], returnType := some .byte }, accessFlags := 8, code := some k9c1 }
def k9c2 : Code := { maxStack := 5, maxLocals := 6, code := jdk_52_method_16_code, exceptionTable := #[], attributes := #[] }
def k9m2 : Method := { name := "compress", desc := "([CII)[B", sig := { parameters := [(.array .char), .int, .int], returnType := some (.array .byte) }, accessFlags := 9, code := some k9c2 }
def k9c3 : Code := { maxStack := 3, maxLocals := 7, code := jdk_52_method_21_code, exceptionTable := #[], attributes := #[] }
def k9m3 : Method := { name := "compress", desc := "([CI[BII)I", sig := { parameters := [(.array .char), .int, (.array .byte), .int, .int], returnType := some .int }, accessFlags := 9, code := some k9c3 }
/-- java/lang/StringUTF16 -/
def k9 : Class := { plain "java/lang/StringUTF16" (some 0) with
  accessFlags := 48
  interfaces := #[]
  cf := some (fileOf pool9 12 #[.nestMembers #[627, 629, 369]] #[{ accessFlags := 0, nameIndex := 9, descriptorIndex := 10, attributes := #[] }, { accessFlags := 8, nameIndex := 261, descriptorIndex := 262, attributes := #[] }, { accessFlags := 9, nameIndex := 117, descriptorIndex := 122, attributes := #[] }, { accessFlags := 9, nameIndex := 117, descriptorIndex := 118, attributes := #[] }] 48 6 #[] #[{ accessFlags := 26, nameIndex := 61, descriptorIndex := 62, attributes := #[] }, { accessFlags := 26, nameIndex := 65, descriptorIndex := 62, attributes := #[] }, { accessFlags := 24, nameIndex := 430, descriptorIndex := 62, attributes := #[] }, { accessFlags := 4120, nameIndex := 46, descriptorIndex := 47, attributes := #[] }])
  fields := #[{ name := "HI_BYTE_SHIFT", type := .int, accessFlags := 26, slot := 0, constantValue := 0 }, { name := "LO_BYTE_SHIFT", type := .int, accessFlags := 26, slot := 1, constantValue := 0 }, { name := "MAX_LENGTH", type := .int, accessFlags := 24, slot := 2, constantValue := 0 }, { name := "$assertionsDisabled", type := .boolean, accessFlags := 4120, slot := 3, constantValue := 0 }]
  methods := #[k9m0, k9m1, k9m2, k9m3]
  instanceTypes := #[]
  staticTypes := #[.int, .int, .int, .boolean]
  resolved := Array.replicate 635 none
  statics := none }

def pool10 : Array CpInfo := pool [(2, .class_ 4), (1, u "java/lang/Enum"), (0, u "name"), (0, u "Ljava/lang/String;"), (2, u "ordinal"), (0, u "I"), (1, .class_ 14), (1, u "java/lang/Object"), (4, u "hash"), (86, .class_ 108), (1, u "java/lang/Enum$EnumDesc"), (2, .class_ 112), (0, u "java/lang/constant/Constable"), (0, .class_ 114), (0, u "java/lang/Comparable"), (0, .class_ 116), (0, u "java/io/Serializable")] 87

/-- java/lang/Enum -/
def k10 : Class := { plain "java/lang/Enum" (some 0) with
  accessFlags := 1057
  interfaces := #[5, 3, 2]
  cf := some (fileOf pool10 2 #[.nestMembers #[106]] #[] 1057 12 #[111, 113, 115] #[{ accessFlags := 18, nameIndex := 5, descriptorIndex := 6, attributes := #[] }, { accessFlags := 18, nameIndex := 9, descriptorIndex := 10, attributes := #[] }, { accessFlags := 2, nameIndex := 19, descriptorIndex := 10, attributes := #[] }])
  fields := #[{ name := "name", type := (.object "java/lang/String"), accessFlags := 18, slot := 0, constantValue := 0 }, { name := "ordinal", type := .int, accessFlags := 18, slot := 1, constantValue := 0 }, { name := "hash", type := .int, accessFlags := 2, slot := 2, constantValue := 0 }]
  methods := #[]
  instanceTypes := #[(.object "java/lang/String"), .int, .int]
  staticTypes := #[]
  resolved := Array.replicate 204 none
  statics := none }

def pool11 : Array CpInfo := pool [(1, .class_ 2), (0, u "com/example/markupkeel/markupkeel/validator/TestSuite$Verdict"), (2, u "VALID"), (0, u "Lcom/example/markupkeel/markupkeel/validator/TestSuite$Verdict;"), (2, u "INVALID"), (2, u "NOT_SUPPORTED"), (2, u "NOT_CHECKED"), (2, u "$VALUES"), (0, u "[Lcom/example/markupkeel/markupkeel/validator/TestSuite$Verdict;"), (6, .class_ 28), (1, u "java/lang/Enum"), (48, .class_ 78), (0, u "com/example/markupkeel/markupkeel/validator/TestSuite")] 2

/-- com/example/markupkeel/markupkeel/validator/TestSuite$Verdict -/
def k11 : Class := { plain "com/example/markupkeel/markupkeel/validator/TestSuite$Verdict" (some 10) with
  accessFlags := 16433
  interfaces := #[]
  cf := some (fileOf pool11 1 #[.nestHost 77] #[] 16433 26 #[] #[{ accessFlags := 16409, nameIndex := 5, descriptorIndex := 6, attributes := #[] }, { accessFlags := 16409, nameIndex := 9, descriptorIndex := 6, attributes := #[] }, { accessFlags := 16409, nameIndex := 12, descriptorIndex := 6, attributes := #[] }, { accessFlags := 16409, nameIndex := 15, descriptorIndex := 6, attributes := #[] }, { accessFlags := 4122, nameIndex := 18, descriptorIndex := 19, attributes := #[] }])
  fields := #[{ name := "VALID", type := (.object "com/example/markupkeel/markupkeel/validator/TestSuite$Verdict"), accessFlags := 16409, slot := 0, constantValue := 0 }, { name := "INVALID", type := (.object "com/example/markupkeel/markupkeel/validator/TestSuite$Verdict"), accessFlags := 16409, slot := 1, constantValue := 0 }, { name := "NOT_SUPPORTED", type := (.object "com/example/markupkeel/markupkeel/validator/TestSuite$Verdict"), accessFlags := 16409, slot := 2, constantValue := 0 }, { name := "NOT_CHECKED", type := (.object "com/example/markupkeel/markupkeel/validator/TestSuite$Verdict"), accessFlags := 16409, slot := 3, constantValue := 0 }, { name := "$VALUES", type := (.array (.object "com/example/markupkeel/markupkeel/validator/TestSuite$Verdict")), accessFlags := 4122, slot := 4, constantValue := 0 }]
  methods := #[]
  instanceTypes := #[(.object "java/lang/String"), .int, .int]
  staticTypes := #[(.object "com/example/markupkeel/markupkeel/validator/TestSuite$Verdict"), (.object "com/example/markupkeel/markupkeel/validator/TestSuite$Verdict"), (.object "com/example/markupkeel/markupkeel/validator/TestSuite$Verdict"), (.object "com/example/markupkeel/markupkeel/validator/TestSuite$Verdict"), (.array (.object "com/example/markupkeel/markupkeel/validator/TestSuite$Verdict"))]
  resolved := Array.replicate 81 none
  statics := some 1 }

def pool12 : Array CpInfo := pool [(1, .methodref 2 3), (0, .class_ 4), (0, .nameAndType 5 6), (0, u "java/lang/Object"), (0, u "<init>"), (0, u "()V"), (0, .class_ 8), (0, u "java/lang/Record")] 13

def k12c0 : Code := { maxStack := 1, maxLocals := 1, code := jdk_30_method_1_code, exceptionTable := #[], attributes := #[] }
def k12m0 : Method := { name := "<init>", desc := "()V", sig := { parameters := [], returnType := none }, accessFlags := 4, code := some k12c0 }
/-- java/lang/Record -/
def k12 : Class := { plain "java/lang/Record" (some 0) with
  accessFlags := 1057
  interfaces := #[]
  cf := some (fileOf pool12 7 #[] #[{ accessFlags := 4, nameIndex := 5, descriptorIndex := 6, attributes := #[] }] 1057 2 #[] #[])
  fields := #[]
  methods := #[k12m0]
  instanceTypes := #[]
  staticTypes := #[]
  resolved := Array.replicate 22 none
  statics := none }

def pool13 : Array CpInfo := pool [(1, .methodref 2 3), (0, .class_ 4), (0, .nameAndType 5 6), (0, u "java/lang/Record"), (0, u "<init>"), (0, u "()V"), (0, .fieldref 8 9), (0, .class_ 10), (0, .nameAndType 11 12), (0, u "com/example/markupkeel/markupkeel/validator/TestSuite$Outcome"), (0, u "set"), (0, u "Ljava/lang/String;"), (0, .fieldref 8 14), (0, .nameAndType 15 12), (0, u "group"), (0, .fieldref 8 17), (0, .nameAndType 18 12), (0, u "test"), (0, .fieldref 8 20), (0, .nameAndType 21 22), (0, u "expected"), (0, u "Lcom/example/markupkeel/markupkeel/validator/TestSuite$Verdict;"), (0, .fieldref 8 24), (0, .nameAndType 25 22), (0, u "actual"), (18, u "(Ljava/lang/String;Ljava/lang/String;Ljava/lang/String;Lcom/example/markupkeel/markupkeel/validator/TestSuite$Verdict;Lcom/example/markupkeel/markupkeel/validator/TestSuite$Verdict;)V"), (3, u "agrees"), (0, u "()Z"), (9, .class_ 60), (0, u "com/example/markupkeel/markupkeel/validator/TestSuite")] 34

def k13c0 : Code := { maxStack := 2, maxLocals := 6, code := prog_189_method_1_code, exceptionTable := #[], attributes := #[] }
def k13m0 : Method := { name := "<init>", desc := "(Ljava/lang/String;Ljava/lang/String;Ljava/lang/String;Lcom/example/markupkeel/markupkeel/validator/TestSuite$Verdict;Lcom/example/markupkeel/markupkeel/validator/TestSuite$Verdict;)V", sig := { parameters := [(.object "java/lang/String"), (.object "java/lang/String"), (.object "java/lang/String"), (.object "com/example/markupkeel/markupkeel/validator/TestSuite$Verdict"), (.object "com/example/markupkeel/markupkeel/validator/TestSuite$Verdict")], returnType := none }, accessFlags := 1, code := some k13c0 }
def k13c1 : Code := { maxStack := 2, maxLocals := 1, code := prog_189_method_2_code, exceptionTable := #[], attributes := #[] }
def k13m1 : Method := { name := "agrees", desc := "()Z", sig := { parameters := [], returnType := some .boolean }, accessFlags := 1, code := some k13c1 }
/-- com/example/markupkeel/markupkeel/validator/TestSuite$Outcome -/
def k13 : Class := { plain "com/example/markupkeel/markupkeel/validator/TestSuite$Outcome" (some 12) with
  accessFlags := 49
  interfaces := #[]
  cf := some (fileOf pool13 8 #[.nestHost 59] #[{ accessFlags := 1, nameIndex := 5, descriptorIndex := 44, attributes := #[] }, { accessFlags := 1, nameIndex := 48, descriptorIndex := 49, attributes := #[] }] 49 2 #[] #[{ accessFlags := 18, nameIndex := 11, descriptorIndex := 12, attributes := #[] }, { accessFlags := 18, nameIndex := 15, descriptorIndex := 12, attributes := #[] }, { accessFlags := 18, nameIndex := 18, descriptorIndex := 12, attributes := #[] }, { accessFlags := 18, nameIndex := 21, descriptorIndex := 22, attributes := #[] }, { accessFlags := 18, nameIndex := 25, descriptorIndex := 22, attributes := #[] }])
  fields := #[{ name := "set", type := (.object "java/lang/String"), accessFlags := 18, slot := 0, constantValue := 0 }, { name := "group", type := (.object "java/lang/String"), accessFlags := 18, slot := 1, constantValue := 0 }, { name := "test", type := (.object "java/lang/String"), accessFlags := 18, slot := 2, constantValue := 0 }, { name := "expected", type := (.object "com/example/markupkeel/markupkeel/validator/TestSuite$Verdict"), accessFlags := 18, slot := 3, constantValue := 0 }, { name := "actual", type := (.object "com/example/markupkeel/markupkeel/validator/TestSuite$Verdict"), accessFlags := 18, slot := 4, constantValue := 0 }]
  methods := #[k13m0, k13m1]
  instanceTypes := #[(.object "java/lang/String"), (.object "java/lang/String"), (.object "java/lang/String"), (.object "com/example/markupkeel/markupkeel/validator/TestSuite$Verdict"), (.object "com/example/markupkeel/markupkeel/validator/TestSuite$Verdict")]
  staticTypes := #[]
  resolved := Array.replicate 95 none
  statics := none }

def pool14 : Array CpInfo := pool [(2, .class_ 4), (1, u "java/lang/Object"), (0, u "<init>"), (0, u "()V"), (17, .class_ 26), (1, u "jdk/internal/util/Preconditions"), (28, .class_ 56), (0, u "jdk/internal/util/Preconditions$4"), (57, .class_ 115), (0, u "jdk/internal/util/Preconditions$1"), (7, u "SIOOBE_FORMATTER"), (0, u "Ljava/util/function/BiFunction;"), (0, .class_ 126), (0, u "jdk/internal/util/Preconditions$2"), (3, u "AIOOBE_FORMATTER"), (0, .class_ 132), (0, u "jdk/internal/util/Preconditions$3"), (3, u "IOOBE_FORMATTER")] 57

def k14m0 : Method := { name := "<init>", desc := "()V", sig := { parameters := [], returnType := none }, accessFlags := 1, code := none }
/-- jdk/internal/util/Preconditions -/
def k14 : Class := { plain "jdk/internal/util/Preconditions" (some 0) with
  accessFlags := 33
  interfaces := #[]
  cf := some (fileOf pool14 24 #[.nestMembers #[55, 131, 125, 114]] #[{ accessFlags := 1, nameIndex := 5, descriptorIndex := 6, attributes := #[] }] 33 2 #[] #[{ accessFlags := 25, nameIndex := 123, descriptorIndex := 124, attributes := #[] }, { accessFlags := 25, nameIndex := 130, descriptorIndex := 124, attributes := #[] }, { accessFlags := 25, nameIndex := 136, descriptorIndex := 124, attributes := #[] }])
  fields := #[{ name := "SIOOBE_FORMATTER", type := (.object "java/util/function/BiFunction"), accessFlags := 25, slot := 0, constantValue := 0 }, { name := "AIOOBE_FORMATTER", type := (.object "java/util/function/BiFunction"), accessFlags := 25, slot := 1, constantValue := 0 }, { name := "IOOBE_FORMATTER", type := (.object "java/util/function/BiFunction"), accessFlags := 25, slot := 2, constantValue := 0 }]
  methods := #[k14m0]
  instanceTypes := #[]
  staticTypes := #[(.object "java/util/function/BiFunction"), (.object "java/util/function/BiFunction"), (.object "java/util/function/BiFunction")]
  resolved := Array.replicate 194 none
  statics := some 2 }

def pool15 : Array CpInfo := pool [(9, u "<init>"), (6, .class_ 18), (1, u "java/lang/Object"), (0, u "()V"), (1, .class_ 23), (1, u "jdk/internal/util/ArraysSupport"), (0, u "LOG2_ARRAY_LONG_INDEX_SCALE"), (0, u "I"), (2, u "U"), (0, u "Ljdk/internal/misc/Unsafe;"), (8, u "BIG_ENDIAN"), (0, u "Z"), (8, u "LOG2_BYTE_BIT_SIZE"), (4, u "LOG2_ARRAY_INT_INDEX_SCALE"), (54, u "JLA"), (0, u "Ljdk/internal/access/JavaLangAccess;"), (11, u "LOG2_ARRAY_BOOLEAN_INDEX_SCALE"), (9, u "LOG2_ARRAY_BYTE_INDEX_SCALE"), (5, u "LOG2_ARRAY_CHAR_INDEX_SCALE"), (5, u "LOG2_ARRAY_SHORT_INDEX_SCALE"), (18, u "LOG2_ARRAY_FLOAT_INDEX_SCALE"), (24, u "LOG2_ARRAY_DOUBLE_INDEX_SCALE"), (89, u "T_BOOLEAN"), (2, u "T_CHAR"), (1, u "T_FLOAT"), (1, u "T_DOUBLE"), (1, u "T_BYTE"), (1, u "T_SHORT"), (1, u "T_INT"), (1, u "T_LONG"), (1, u "SOFT_MAX_ARRAY_LENGTH")] 83

def k15m0 : Method := { name := "<init>", desc := "()V", sig := { parameters := [], returnType := none }, accessFlags := 2, code := none }
/-- jdk/internal/util/ArraysSupport -/
def k15 : Class := { plain "jdk/internal/util/ArraysSupport" (some 0) with
  accessFlags := 33
  interfaces := #[]
  cf := some (fileOf pool15 21 #[] #[{ accessFlags := 2, nameIndex := 9, descriptorIndex := 19, attributes := #[] }] 33 16 #[] #[{ accessFlags := 24, nameIndex := 28, descriptorIndex := 29, attributes := #[] }, { accessFlags := 26, nameIndex := 38, descriptorIndex := 39, attributes := #[] }, { accessFlags := 25, nameIndex := 121, descriptorIndex := 25, attributes := #[] }, { accessFlags := 25, nameIndex := 131, descriptorIndex := 25, attributes := #[] }, { accessFlags := 25, nameIndex := 137, descriptorIndex := 25, attributes := #[] }, { accessFlags := 25, nameIndex := 143, descriptorIndex := 25, attributes := #[] }, { accessFlags := 25, nameIndex := 53, descriptorIndex := 25, attributes := #[] }, { accessFlags := 25, nameIndex := 24, descriptorIndex := 25, attributes := #[] }, { accessFlags := 25, nameIndex := 162, descriptorIndex := 25, attributes := #[] }, { accessFlags := 25, nameIndex := 187, descriptorIndex := 25, attributes := #[] }, { accessFlags := 26, nameIndex := 48, descriptorIndex := 25, attributes := #[] }, { accessFlags := 25, nameIndex := 277, descriptorIndex := 25, attributes := #[] }, { accessFlags := 25, nameIndex := 280, descriptorIndex := 25, attributes := #[] }, { accessFlags := 25, nameIndex := 282, descriptorIndex := 25, attributes := #[] }, { accessFlags := 25, nameIndex := 284, descriptorIndex := 25, attributes := #[] }, { accessFlags := 25, nameIndex := 286, descriptorIndex := 25, attributes := #[] }, { accessFlags := 25, nameIndex := 288, descriptorIndex := 25, attributes := #[] }, { accessFlags := 25, nameIndex := 290, descriptorIndex := 25, attributes := #[] }, { accessFlags := 25, nameIndex := 292, descriptorIndex := 25, attributes := #[] }, { accessFlags := 26, nameIndex := 108, descriptorIndex := 109, attributes := #[] }, { accessFlags := 25, nameIndex := 294, descriptorIndex := 25, attributes := #[] }])
  fields := #[{ name := "U", type := (.object "jdk/internal/misc/Unsafe"), accessFlags := 24, slot := 0, constantValue := 0 }, { name := "BIG_ENDIAN", type := .boolean, accessFlags := 26, slot := 1, constantValue := 0 }, { name := "LOG2_ARRAY_BOOLEAN_INDEX_SCALE", type := .int, accessFlags := 25, slot := 2, constantValue := 0 }, { name := "LOG2_ARRAY_BYTE_INDEX_SCALE", type := .int, accessFlags := 25, slot := 3, constantValue := 0 }, { name := "LOG2_ARRAY_CHAR_INDEX_SCALE", type := .int, accessFlags := 25, slot := 4, constantValue := 0 }, { name := "LOG2_ARRAY_SHORT_INDEX_SCALE", type := .int, accessFlags := 25, slot := 5, constantValue := 0 }, { name := "LOG2_ARRAY_INT_INDEX_SCALE", type := .int, accessFlags := 25, slot := 6, constantValue := 0 }, { name := "LOG2_ARRAY_LONG_INDEX_SCALE", type := .int, accessFlags := 25, slot := 7, constantValue := 0 }, { name := "LOG2_ARRAY_FLOAT_INDEX_SCALE", type := .int, accessFlags := 25, slot := 8, constantValue := 0 }, { name := "LOG2_ARRAY_DOUBLE_INDEX_SCALE", type := .int, accessFlags := 25, slot := 9, constantValue := 0 }, { name := "LOG2_BYTE_BIT_SIZE", type := .int, accessFlags := 26, slot := 10, constantValue := 0 }, { name := "T_BOOLEAN", type := .int, accessFlags := 25, slot := 11, constantValue := 0 }, { name := "T_CHAR", type := .int, accessFlags := 25, slot := 12, constantValue := 0 }, { name := "T_FLOAT", type := .int, accessFlags := 25, slot := 13, constantValue := 0 }, { name := "T_DOUBLE", type := .int, accessFlags := 25, slot := 14, constantValue := 0 }, { name := "T_BYTE", type := .int, accessFlags := 25, slot := 15, constantValue := 0 }, { name := "T_SHORT", type := .int, accessFlags := 25, slot := 16, constantValue := 0 }, { name := "T_INT", type := .int, accessFlags := 25, slot := 17, constantValue := 0 }, { name := "T_LONG", type := .int, accessFlags := 25, slot := 18, constantValue := 0 }, { name := "JLA", type := (.object "jdk/internal/access/JavaLangAccess"), accessFlags := 26, slot := 19, constantValue := 0 }, { name := "SOFT_MAX_ARRAY_LENGTH", type := .int, accessFlags := 25, slot := 20, constantValue := 0 }]
  methods := #[k15m0]
  instanceTypes := #[]
  staticTypes := #[(.object "jdk/internal/misc/Unsafe"), .boolean, .int, .int, .int, .int, .int, .int, .int, .int, .int, .int, .int, .int, .int, .int, .int, .int, .int, (.object "jdk/internal/access/JavaLangAccess"), .int]
  resolved := Array.replicate 378 none
  statics := none }

def pool16 : Array CpInfo := pool [(1, u "java/lang/Cloneable"), (0, .class_ 1), (0, u "java/lang/Object"), (0, .class_ 3)] 3

/-- java/lang/Cloneable -/
def k16 : Class := { plain "java/lang/Cloneable" (some 0) with
  accessFlags := 1537
  interfaces := #[]
  cf := some (fileOf pool16 2 #[] #[] 1537 4 #[] #[])
  fields := #[]
  methods := #[]
  instanceTypes := #[]
  staticTypes := #[]
  resolved := Array.replicate 8 none
  statics := none }

/-- the primitive byte -/
def k17 : Class := { plain "byte" none with kind := .primitive 'B', accessFlags := 0x411 }
/-- [B -/
def k18 : Class := { plain "[B" (some 0) with kind := .array 17 .byte, interfaces := #[16, 2], accessFlags := 1041 }

/-- the primitive char -/
def k19 : Class := { plain "char" none with kind := .primitive 'C', accessFlags := 0x411 }
/-- [C -/
def k20 : Class := { plain "[C" (some 0) with kind := .array 19 .char, interfaces := #[16, 2], accessFlags := 1041 }

/-- the primitive int -/
def k21 : Class := { plain "int" none with kind := .primitive 'I', accessFlags := 0x411 }
/-- [I -/
def k22 : Class := { plain "[I" (some 0) with kind := .array 21 .int, interfaces := #[16, 2], accessFlags := 1041 }

def heap : Heap := #[{ cls := 7, slots := #[.long 0, .int 1, .null, .int 0, .null, .int 0, .int 0], vm := .statics 7 },
  { cls := 11, slots := #[.ref 3, .ref 6, .ref 5, .ref 4, .null], vm := .statics 11 },
  { cls := 14, slots := #[.null, .null, .null], vm := .statics 14 },
  { cls := 11, slots := #[.null, .int 0, .int 0], vm := .none },
  { cls := 11, slots := #[.null, .int 3, .int 0], vm := .none },
  { cls := 11, slots := #[.null, .int 2, .int 0], vm := .none },
  { cls := 11, slots := #[.null, .int 1, .int 0], vm := .none }]
def classes : Array Class := #[k0, k1, k2, k3, k4, k5, k6, k7, k8, k9, k10, k11, k12, k13, k14, k15, k16, k17, k18, k19, k20, k21, k22]
def interned : List (Array UInt16 × Addr) := []
def slotsUsed : Nat := 27
def theMethod : MethodId := ⟨1, 2⟩
def args0 : Array Value := #[.int 5, .int 6, .int 65, .int 66, .int 67]
def aboutOver (below : List Frame) : State where
  vm := { classes := classes, interned := interned.toArray }
  heap := heap
  slotsUsed := slotsUsed
  threads := #[{ frames := .invoking theMethod args0 :: below }]
def below0 : List Frame := [.native { method := ⟨0, 0⟩, args := #[] }]
def about1 : State := aboutOver below0
def p0 : Program := .bare "" "" ""
def e0 : Env := launch0.env 0 0 0
theorem w_frames : about1.frames = Frame.invoking theMethod args0 :: below0 := rfl
set_option maxRecDepth 65536 in
theorem w_args : argsFit about1.vm theMethod args0 = true := by decide +kernel
set_option maxRecDepth 65536 in
theorem w_heap : heapFits about1 = true := by decide +kernel
set_option maxRecDepth 65536 in
theorem w_runnable : about1.curStatus? = some .runnable := by decide +kernel
set_option maxRecDepth 65536 in
theorem w_alone : about1.alone = true := by decide +kernel
set_option maxRecDepth 65536 in
theorem w_named : about1.methodNamed? x = some theMethod := by decide +kernel
set_option maxRecDepth 65536 in
theorem w_hears : about1.hears theMethod below0 = true := by decide +kernel
set_option maxRecDepth 65536 in
theorem w_ripe : about1.ripe theMethod args0 below0 = true := by decide +kernel
theorem w_running : about1.status = .running := rfl
set_option maxRecDepth 65536 in
theorem w_room : about1.hasRoom e0.platform room_1 = true :=
  launch0.hasRoom_least _ room_1 (by decide +kernel) (by decide +kernel) (by decide +kernel) (by decide +kernel) (by decide +kernel) (by decide +kernel)
theorem allAtoms_all (ts : List Jvm.Cond) (a : Array Jvm.Value) (st : Jvm.State) : (allAtoms ts).before a st = ts.all (fun c => c.before a st) := by
  induction ts with
  | nil => rfl
  | cons c t ih =>
    show (Jvm.Cond.and c (allAtoms t)).before a st = _
    rw [Jvm.Cond.before_and, ih, List.all_cons]
def words1 : List Jvm.Cond := Jvm.Cond.code x code maxLocals ret :: tables_1
/-- a 'code' word, met by the world's own term for the bytes: nothing is compared byte by byte -/
theorem code_word {y : MethodName} {bytes : ByteArray} {mx : Nat} {rt : Option FieldType} {a : Array Value} {s : State} {m : MethodId} {meth : Method} {c : Code} (h1 : s.methodNamed? y = some m) (h2 : s.vm.method? m = some meth) (h3 : meth.code = some c) (h4 : c.code = bytes)
    (h5 : (c.maxLocals == mx && c.exceptionTable.isEmpty && decide (c.maxStack ≤ mostOperands) && decide (meth.sig.returnType = rt) && !meth.locks && decide (parseMethodDescriptor y.desc = some meth.sig)) = true) : (Jvm.Cond.code y bytes mx rt).before a s = true := by
  simp only [Bool.and_eq_true, beq_iff_eq, Bool.not_eq_true', decide_eq_true_eq] at h5
  obtain ⟨⟨⟨⟨⟨g1, g2⟩, g3⟩, g4⟩, g5⟩, g6⟩ := h5
  simp [Cond.before, Cond.holds, Cond.value, h1, h2, h3, h4, g1, g2, g3, g4, g5, g6]
def isCode : Jvm.Cond → Bool
  | .code _ _ _ _ => true
  | _ => false
theorem all_split {L : List Jvm.Cond} {P : Jvm.Cond → Bool} (h1 : L.all (fun c => isCode c || P c) = true) (h2 : ∀ c ∈ L.filter isCode, P c = true) : L.all P = true := by
  refine List.all_eq_true.mpr fun c hc => ?_
  have h := List.all_eq_true.mp h1 c hc
  rcases Bool.eq_false_or_eq_true (isCode c) with hi | hi
  · exact h2 c (List.mem_filter.mpr ⟨hc, hi⟩)
  · simpa [hi] using h
set_option maxRecDepth 65536 in
theorem w_c0 : (Jvm.Cond.code x code maxLocals ret).before args0 about1 = true := code_word (m := ⟨1, 2⟩) (meth := k1m2) (c := k1c2) (by decide +kernel) rfl rfl rfl (by decide +kernel)
set_option maxRecDepth 65536 in
theorem w_c1 : (Jvm.Cond.code ({ cls := "java/lang/String", name := "valueOf", desc := "(C)Ljava/lang/String;" } : Jvm.MethodName) jdk_42_method_139_code (1 : Nat) (Option.some (Jvm.ClassFile.FieldType.object "java/lang/String"))).before args0 about1 = true := code_word (m := ⟨7, 2⟩) (meth := k7m2) (c := k7c2) (by decide +kernel) rfl rfl rfl (by decide +kernel)
set_option maxRecDepth 65536 in
theorem w_c2 : (Jvm.Cond.code ({ cls := "java/lang/StringLatin1", name := "canEncode", desc := "(C)Z" } : Jvm.MethodName) jdk_43_method_3_code (1 : Nat) (Option.some Jvm.ClassFile.FieldType.boolean)).before args0 about1 = true := code_word (m := ⟨8, 1⟩) (meth := k8m1) (c := k8c1) (by decide +kernel) rfl rfl rfl (by decide +kernel)
set_option maxRecDepth 65536 in
theorem w_c3 : (Jvm.Cond.code ({ cls := "java/lang/StringLatin1", name := "toBytes", desc := "(C)[B" } : Jvm.MethodName) jdk_43_method_46_code (1 : Nat) (Option.some (Jvm.ClassFile.FieldType.array Jvm.ClassFile.FieldType.byte))).before args0 about1 = true := code_word (m := ⟨8, 2⟩) (meth := k8m2) (c := k8c2) (by decide +kernel) rfl rfl rfl (by decide +kernel)
set_option maxRecDepth 65536 in
theorem w_c4 : (Jvm.Cond.code ({ cls := "java/lang/String", name := "<init>", desc := "([BB)V" } : Jvm.MethodName) jdk_42_method_151_code (3 : Nat) (Option.none : Option Jvm.ClassFile.FieldType)).before args0 about1 = true := code_word (m := ⟨7, 4⟩) (meth := k7m4) (c := k7c4) (by decide +kernel) rfl rfl rfl (by decide +kernel)
set_option maxRecDepth 65536 in
theorem w_c5 : (Jvm.Cond.code ({ cls := "java/lang/Object", name := "<init>", desc := "()V" } : Jvm.MethodName) object_method_1_code (1 : Nat) (Option.none : Option Jvm.ClassFile.FieldType)).before args0 about1 = true := code_word (m := ⟨0, 0⟩) (meth := k0m0) (c := k0c0) (by decide +kernel) rfl rfl rfl (by decide +kernel)
set_option maxRecDepth 65536 in
theorem w_c6 : (Jvm.Cond.code ({ cls := "java/lang/String", name := "<init>", desc := "([C)V" } : Jvm.MethodName) jdk_42_method_3_code (2 : Nat) (Option.none : Option Jvm.ClassFile.FieldType)).before args0 about1 = true := code_word (m := ⟨7, 1⟩) (meth := k7m1) (c := k7c1) (by decide +kernel) rfl rfl rfl (by decide +kernel)
set_option maxRecDepth 65536 in
theorem w_c7 : (Jvm.Cond.code ({ cls := "java/lang/String", name := "<init>", desc := "([CIILjava/lang/Void;)V" } : Jvm.MethodName) jdk_42_method_149_code (6 : Nat) (Option.none : Option Jvm.ClassFile.FieldType)).before args0 about1 = true := code_word (m := ⟨7, 3⟩) (meth := k7m3) (c := k7c3) (by decide +kernel) rfl rfl rfl (by decide +kernel)
set_option maxRecDepth 65536 in
theorem w_c8 : (Jvm.Cond.code ({ cls := "java/lang/StringUTF16", name := "compress", desc := "([CII)[B" } : Jvm.MethodName) jdk_52_method_16_code (6 : Nat) (Option.some (Jvm.ClassFile.FieldType.array Jvm.ClassFile.FieldType.byte))).before args0 about1 = true := code_word (m := ⟨9, 2⟩) (meth := k9m2) (c := k9c2) (by decide +kernel) rfl rfl rfl (by decide +kernel)
set_option maxRecDepth 65536 in
theorem w_c9 : (Jvm.Cond.code ({ cls := "java/lang/StringUTF16", name := "compress", desc := "([CI[BII)I" } : Jvm.MethodName) jdk_52_method_21_code (7 : Nat) (Option.some Jvm.ClassFile.FieldType.int)).before args0 about1 = true := code_word (m := ⟨9, 3⟩) (meth := k9m3) (c := k9c3) (by decide +kernel) rfl rfl rfl (by decide +kernel)
set_option maxRecDepth 65536 in
theorem w_c10 : (Jvm.Cond.code ({ cls := "java/lang/StringUTF16", name := "coderFromArrayLen", desc := "([BI)B" } : Jvm.MethodName) jdk_52_method_15_code (2 : Nat) (Option.some Jvm.ClassFile.FieldType.byte)).before args0 about1 = true := code_word (m := ⟨9, 1⟩) (meth := k9m1) (c := k9c1) (by decide +kernel) rfl rfl rfl (by decide +kernel)
set_option maxRecDepth 65536 in
theorem w_c11 : (Jvm.Cond.code ({ cls := "com/example/markupkeel/markupkeel/validator/OutcomeAgreesPinLaw", name := "verdict", desc := "(I)Lcom/example/markupkeel/markupkeel/validator/TestSuite$Verdict;" } : Jvm.MethodName) method_2_code (1 : Nat) (Option.some (Jvm.ClassFile.FieldType.object "com/example/markupkeel/markupkeel/validator/TestSuite$Verdict"))).before args0 about1 = true := code_word (m := ⟨1, 1⟩) (meth := k1m1) (c := k1c1) (by decide +kernel) rfl rfl rfl (by decide +kernel)
set_option maxRecDepth 65536 in
theorem w_c12 : (Jvm.Cond.code ({ cls := "com/example/markupkeel/markupkeel/validator/TestSuite$Outcome", name := "<init>", desc := "(Ljava/lang/String;Ljava/lang/String;Ljava/lang/String;Lcom/example/markupkeel/markupkeel/validator/TestSuite$Verdict;Lcom/example/markupkeel/markupkeel/validator/TestSuite$Verdict;)V" } : Jvm.MethodName) prog_189_method_1_code (6 : Nat) (Option.none : Option Jvm.ClassFile.FieldType)).before args0 about1 = true := code_word (m := ⟨13, 0⟩) (meth := k13m0) (c := k13c0) (by decide +kernel) rfl rfl rfl (by decide +kernel)
set_option maxRecDepth 65536 in
theorem w_c13 : (Jvm.Cond.code ({ cls := "java/lang/Record", name := "<init>", desc := "()V" } : Jvm.MethodName) jdk_30_method_1_code (1 : Nat) (Option.none : Option Jvm.ClassFile.FieldType)).before args0 about1 = true := code_word (m := ⟨12, 0⟩) (meth := k12m0) (c := k12c0) (by decide +kernel) rfl rfl rfl (by decide +kernel)
set_option maxRecDepth 65536 in
theorem w_c14 : (Jvm.Cond.code ({ cls := "com/example/markupkeel/markupkeel/validator/TestSuite$Outcome", name := "agrees", desc := "()Z" } : Jvm.MethodName) prog_189_method_2_code (1 : Nat) (Option.some Jvm.ClassFile.FieldType.boolean)).before args0 about1 = true := code_word (m := ⟨13, 1⟩) (meth := k13m1) (c := k13c1) (by decide +kernel) rfl rfl rfl (by decide +kernel)
def codes1 : List Jvm.Cond := [Jvm.Cond.code x code maxLocals ret, Jvm.Cond.code ({ cls := "java/lang/String", name := "valueOf", desc := "(C)Ljava/lang/String;" } : Jvm.MethodName) jdk_42_method_139_code (1 : Nat) (Option.some (Jvm.ClassFile.FieldType.object "java/lang/String")), Jvm.Cond.code ({ cls := "java/lang/StringLatin1", name := "canEncode", desc := "(C)Z" } : Jvm.MethodName) jdk_43_method_3_code (1 : Nat) (Option.some Jvm.ClassFile.FieldType.boolean), Jvm.Cond.code ({ cls := "java/lang/StringLatin1", name := "toBytes", desc := "(C)[B" } : Jvm.MethodName) jdk_43_method_46_code (1 : Nat) (Option.some (Jvm.ClassFile.FieldType.array Jvm.ClassFile.FieldType.byte)), Jvm.Cond.code ({ cls := "java/lang/String", name := "<init>", desc := "([BB)V" } : Jvm.MethodName) jdk_42_method_151_code (3 : Nat) (Option.none : Option Jvm.ClassFile.FieldType), Jvm.Cond.code ({ cls := "java/lang/Object", name := "<init>", desc := "()V" } : Jvm.MethodName) object_method_1_code (1 : Nat) (Option.none : Option Jvm.ClassFile.FieldType), Jvm.Cond.code ({ cls := "java/lang/String", name := "<init>", desc := "([C)V" } : Jvm.MethodName) jdk_42_method_3_code (2 : Nat) (Option.none : Option Jvm.ClassFile.FieldType), Jvm.Cond.code ({ cls := "java/lang/String", name := "<init>", desc := "([CIILjava/lang/Void;)V" } : Jvm.MethodName) jdk_42_method_149_code (6 : Nat) (Option.none : Option Jvm.ClassFile.FieldType), Jvm.Cond.code ({ cls := "java/lang/StringUTF16", name := "compress", desc := "([CII)[B" } : Jvm.MethodName) jdk_52_method_16_code (6 : Nat) (Option.some (Jvm.ClassFile.FieldType.array Jvm.ClassFile.FieldType.byte)), Jvm.Cond.code ({ cls := "java/lang/StringUTF16", name := "compress", desc := "([CI[BII)I" } : Jvm.MethodName) jdk_52_method_21_code (7 : Nat) (Option.some Jvm.ClassFile.FieldType.int), Jvm.Cond.code ({ cls := "java/lang/StringUTF16", name := "coderFromArrayLen", desc := "([BI)B" } : Jvm.MethodName) jdk_52_method_15_code (2 : Nat) (Option.some Jvm.ClassFile.FieldType.byte), Jvm.Cond.code ({ cls := "com/example/markupkeel/markupkeel/validator/OutcomeAgreesPinLaw", name := "verdict", desc := "(I)Lcom/example/markupkeel/markupkeel/validator/TestSuite$Verdict;" } : Jvm.MethodName) method_2_code (1 : Nat) (Option.some (Jvm.ClassFile.FieldType.object "com/example/markupkeel/markupkeel/validator/TestSuite$Verdict")), Jvm.Cond.code ({ cls := "com/example/markupkeel/markupkeel/validator/TestSuite$Outcome", name := "<init>", desc := "(Ljava/lang/String;Ljava/lang/String;Ljava/lang/String;Lcom/example/markupkeel/markupkeel/validator/TestSuite$Verdict;Lcom/example/markupkeel/markupkeel/validator/TestSuite$Verdict;)V" } : Jvm.MethodName) prog_189_method_1_code (6 : Nat) (Option.none : Option Jvm.ClassFile.FieldType), Jvm.Cond.code ({ cls := "java/lang/Record", name := "<init>", desc := "()V" } : Jvm.MethodName) jdk_30_method_1_code (1 : Nat) (Option.none : Option Jvm.ClassFile.FieldType), Jvm.Cond.code ({ cls := "com/example/markupkeel/markupkeel/validator/TestSuite$Outcome", name := "agrees", desc := "()Z" } : Jvm.MethodName) prog_189_method_2_code (1 : Nat) (Option.some Jvm.ClassFile.FieldType.boolean)]
set_option maxRecDepth 65536 in
theorem codes_eq : words1.filter isCode = codes1 := rfl
theorem w_codes : ∀ c ∈ words1.filter isCode, c.before args0 about1 = true := by
  rw [codes_eq]
  intro c hc
  simp only [codes1, List.mem_cons, List.not_mem_nil, or_false] at hc
  rcases hc with rfl | rfl | rfl | rfl | rfl | rfl | rfl | rfl | rfl | rfl | rfl | rfl | rfl | rfl | rfl
  · exact w_c0
  · exact w_c1
  · exact w_c2
  · exact w_c3
  · exact w_c4
  · exact w_c5
  · exact w_c6
  · exact w_c7
  · exact w_c8
  · exact w_c9
  · exact w_c10
  · exact w_c11
  · exact w_c12
  · exact w_c13
  · exact w_c14
set_option maxRecDepth 65536 in
theorem w_t1 : (words1.take 24).all (fun c => isCode c || c.before args0 about1) = true := by decide +kernel
set_option maxRecDepth 65536 in
theorem w_t2 : ((words1.drop 24).take 24).all (fun c => isCode c || c.before args0 about1) = true := by decide +kernel
set_option maxRecDepth 65536 in
theorem w_t3 : (((words1.drop 24).drop 24).take 24).all (fun c => isCode c || c.before args0 about1) = true := by decide +kernel
set_option maxRecDepth 65536 in
theorem w_t4 : (((words1.drop 24).drop 24).drop 24).all (fun c => isCode c || c.before args0 about1) = true := by decide +kernel
theorem w_tables : (allAtoms (Jvm.Cond.code x code maxLocals ret :: tables_1)).before args0 about1 = true := by
  rw [allAtoms_all]
  show words1.all (fun c => c.before args0 about1) = true
  refine all_split ?_ w_codes
  rw [← List.take_append_drop 24 words1, List.all_append, w_t1, ← List.take_append_drop 24 (words1.drop 24), List.all_append, w_t2, ← List.take_append_drop 24 ((words1.drop 24).drop 24), List.all_append, w_t3, w_t4]
  rfl
set_option maxRecDepth 65536 in
theorem w_rest : rest_1_c.before args0 about1 = true := by decide +kernel
set_option maxRecDepth 65536 in
theorem w_case : (Jvm.Cond.and given_1 narrow_1).before args0 about1 = true := by decide +kernel
theorem w_applies : (headSpec (Jvm.Cond.code x code maxLocals ret :: tables_1) room_1).applies x e0.platform about1 = true :=
  (Spec.applies_iff w_frames).mpr ⟨w_running, w_runnable, w_alone, w_named, w_hears, w_ripe, w_room, w_tables⟩
theorem atStart : AtStart classFile x code maxLocals ret World_1 tables_1 room_1 Calls_1 rest_1 Pre_1 launch0 p0 e0 about1 theMethod args0 below0 :=
  ⟨lists_1, trivial, launch0.admits_env _ _ _, launch0.least_env, fairChoices_fair.cas, fairChoices_fair.clock, w_frames, w_args, w_heap, w_applies, trivial, w_rest, w_case⟩
end start1
theorem witness_1 : WitnessClaimed_1 := ⟨start1.p0, start1.e0, start1.about1, start1.theMethod, start1.args0, start1.below0, start1.atStart⟩
end Jvm.Pilot.@@N@@
