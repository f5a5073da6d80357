import JvmDerived
import JvmDerived.Pilot.@@N@@Statement
import JvmDerived.Pilot.@@N@@Code
set_option linter.unusedVariables false
set_option linter.unusedSimpArgs false
namespace Jvm.RoadKit
open Sem ClassFile Op Lib Jvm.Stand Jvm.Free Jvm.LawKit
section New
variable {p : Program} {l : Launch} {e : Env} {R : Room} {s : State} {m : MethodId} {args : Array Value} {below : List Frame} {meth : Method} {c : Code} {T : State} {locs : List Loc} {cells slots : Nat}
theorem retI (X : Stand p l e R s m args below meth c T locs cells slots) (hx : p.tables.exec = Jvm.exec) {pc : Nat} {Ls : Array Slot} {z : Int32} {rest : List Value} (hret : meth.sig.returnType = some .int) (hd : decode c.code pc = .ok (.ireturn, 1)) {fs : List Frame}
    (hl : ∀ (f : JFrame) (acts : List Action), f.method = m → f.locked = none → f.entered = [] → (doReturn e (T.setTop f) acts (some (.int z))).1 = T.setFrames fs) : Steps p.tables e below (T.setTop (mkF m pc Ls (.int z :: rest))) (T.setFrames fs) := by
  have hm' : T.vm.method? m = some meth := X.method'
  have hn : narrow .int (.int z) = .int z := rfl
  show Steps p.tables e below (T.setTop { method := m, pc := pc, locals := Ls, stack := _ :: rest, locked := none }) _
  jvm_step X.here [X.here.top, hx, hd, hm', hret, hn]
  first | (intro acts; rw [hl _ acts rfl rfl rfl]) | rw [hl _ _ rfl rfl rfl]
  exact Steps.refl _
end New
end Jvm.RoadKit
/- laws to paste: Road.backV (cut by pick.py; bodies as the Statement names them) -/
namespace Jvm.Pilot.@@N@@
namespace StrChars
open Jvm Sem ClassFile Op Lib Jvm.Stand Jvm.Free.XT Jvm.Free.ALB Jvm.Free.JM Jvm.Free
open Jvm.Lib.Cold (StaticIs)
/-- a char array whose places are chars -/
def Ch (a : Addr) (A : Cell) (U : State) : Prop := Arr .char a A U ∧ Typed .char A
theorem Ch.mv {a : Addr} {A : Cell} {U U' : State} (h : Ch a A U) (hal : U.vm.Alike U'.vm) (hh : U'.heap = U.heap) : Ch a A U' := ⟨h.1.mv hal hh, h.2⟩
theorem Ch.keep {a : Addr} {A : Cell} {U U' : State} (h : Ch a A U) (hal : U.vm.Alike U'.vm) (hk : U'.heap[a]? = some A) : Ch a A U' := ⟨h.1.keep hal hk, h.2⟩
/-- what place i of a char[]'s cell holds -/
def cv (A : Cell) (i : Nat) : Int32 := match A.slots[i]? with | some (.int x) => x | _ => 0
theorem Ch.get {a : Addr} {A : Cell} {U : State} (h : Ch a A U) {i : Nat} (hi : i < A.slots.size) : A.slots[i]? = some (.int (cv A i)) := by
  have e := Array.getElem?_eq_getElem hi
  have f := h.2 i _ e
  unfold cv; rw [e]
  generalize A.slots[i] = v at f
  cases v <;> simp [fits] at f ⊢
/-- the byte that i2b leaves of a char -/
def lo8 (x : Int32) : Int32 := x.toInt8.toInt32
theorem fits_lo8 (y : Int32) : fits .byte (.int (lo8 y)) = true := by
  have h1 := y.toInt8.le_toInt
  have h2 := y.toInt8.toInt_lt
  simp only [lo8, fits, Bool.and_eq_true, decide_eq_true_eq, Int32.le_iff_toInt_le, Int8.toInt_toInt32, show (-128 : Int32).toInt = -128 from by decide, show (127 : Int32).toInt = 127 from by decide]
  omega
/-- A' is A but that each place j of lo .. hi - 1 holds f j -/
def Laid (A A' : Cell) (lo hi : Nat) (f : Nat → Value) : Prop := A'.cls = A.cls ∧ A'.vm = A.vm ∧ A'.slots.size = A.slots.size ∧ ∀ i, A'.slots[i]? = if lo ≤ i ∧ i < hi then some (f i) else A.slots[i]?
theorem Laid.zero (A : Cell) (lo : Nat) (f : Nat → Value) : Laid A A lo (lo + 0) f := ⟨rfl, rfl, rfl, fun i => by rw [if_neg (by omega)]⟩
theorem Laid.step {A Ak : Cell} {lo k : Nat} {f : Nat → Value} {v : Value} (h : Laid A Ak lo k f) (hlo : lo ≤ k) (hk : k < Ak.slots.size) (hv : v = f k) : Laid A (Ak.setSlot k v) lo (k + 1) f := by
  refine ⟨h.1, h.2.1, by simpa [Cell.setSlot] using h.2.2.1, fun i => ?_⟩
  by_cases e : k = i
  · subst e; rw [Cell.slots_setSlot_self v hk, if_pos (by omega), hv]
  · rw [Cell.slots_setSlot_ne v e, h.2.2.2 i]
    by_cases q : lo ≤ i ∧ i < k
    · rw [if_pos q, if_pos (by omega)]
    · rw [if_neg q, if_neg (by omega)]
def U16 : String := "java/lang/StringUTF16"
namespace Cmp5
def yN : MethodName := ⟨"java/lang/StringUTF16", "compress", "([CI[BII)I"⟩
abbrev yB : ByteArray := jdk_52_method_21_code
theorem d0 : decode yB 0 = .ok (.iconst 0, 1) := by decide +kernel
theorem d1 : decode yB 1 = .ok (.istore 5, 2) := by decide +kernel
theorem d3 : decode yB 3 = .ok (.iload 5, 2) := by decide +kernel
theorem d5 : decode yB 5 = .ok (.iload 4, 2) := by decide +kernel
theorem d7 : decode yB 7 = .ok (.if_icmp (.ge) 37, 3) := by decide +kernel
theorem d10 : decode yB 10 = .ok (.aload_n 0, 1) := by decide +kernel
theorem d11 : decode yB 11 = .ok (.iload_n 1, 1) := by decide +kernel
theorem d12 : decode yB 12 = .ok (.caload, 1) := by decide +kernel
theorem d13 : decode yB 13 = .ok (.istore 6, 2) := by decide +kernel
theorem d15 : decode yB 15 = .ok (.iload 6, 2) := by decide +kernel
theorem d17 : decode yB 17 = .ok (.sipush 255, 3) := by decide +kernel
theorem d20 : decode yB 20 = .ok (.if_icmp (.le) 6, 3) := by decide +kernel
theorem d26 : decode yB 26 = .ok (.aload_n 2, 1) := by decide +kernel
theorem d27 : decode yB 27 = .ok (.iload_n 3, 1) := by decide +kernel
theorem d28 : decode yB 28 = .ok (.iload 6, 2) := by decide +kernel
theorem d30 : decode yB 30 = .ok (.i2b, 1) := by decide +kernel
theorem d31 : decode yB 31 = .ok (.bastore, 1) := by decide +kernel
theorem d32 : decode yB 32 = .ok (.iinc 1 1, 3) := by decide +kernel
theorem d35 : decode yB 35 = .ok (.iinc 3 1, 3) := by decide +kernel
theorem d38 : decode yB 38 = .ok (.iinc 5 1, 3) := by decide +kernel
theorem d41 : decode yB 41 = .ok (.goto (-38), 3) := by decide +kernel
theorem d44 : decode yB 44 = .ok (.iload 4, 2) := by decide +kernel
theorem d46 : decode yB 46 = .ok (.ireturn, 1) := by decide +kernel
def site : List Cond := []
def tab : Cond := tabOf yN yB 7 (some .int) site
def P (b : Addr) (A : Cell) (d : Addr) (B : Cell) (o q len : Nat) (args : Array Value) (s : State) : Prop := args = #[.ref b, .int (Int32.ofNat o), .ref d, .int (Int32.ofNat q), .int (Int32.ofNat len)] ∧ Ch b A s ∧ Arr .byte d B s ∧ b ≠ d ∧ o + len ≤ A.slots.size ∧ q + len ≤ B.slots.size ∧ ∀ i, i < len → ¬ 255 < cv A (o + i)
def E (b : Addr) (A : Cell) (d : Addr) (B : Cell) (o q len : Nat) (r : Option Value) (s u : State) : Prop := r = some (.int (Int32.ofNat len)) ∧ ∃ B', Put d B' s u ∧ Laid B B' q (q + len) (fun j => Value.int (lo8 (cv A (o + (j - q)))))
/-- no char of the range above 255: len; the places written hold each char's low byte -/
theorem law (l : Launch) (b : Addr) (A : Cell) (d : Addr) (B : Cell) (o q len : Nat) : Law l yN 5 5 0 0 yB 7 (some .int) site (P b A d B o q len) (E b A d B o q len) (copyLocs d q len) 0 0 := by
  refine Law.of_walk (plainFor_of_name (by decide +kernel)) (by decide +kernel) (by decide +kernel) (by decide) (fun _ _ h => by rw [h.1]; rfl) (fun _ U U' hal hh h => ⟨h.1, h.2.1.mv hal hh, h.2.2.1.mv hal hh, h.2.2.2⟩) (fun r U U' V V' h1 hal h2 h => ⟨h.1, h.2.elim fun B' q => ⟨B', q.1.mv h1 h2, q.2⟩⟩) ?_
  intro p e s m args below meth c s₁ X0 hexec hbytes hml hret hlk hnm hown hh0 W hP
  obtain ⟨rfl, hA, hB, hne, l1, l2, hp⟩ := hP
  have c1 : Steps p.tables e below (s₁.setTop (entryFrame m #[.ref b, .int (Int32.ofNat o), .ref d, .int (Int32.ofNat q), .int (Int32.ofNat len)] 7)) (s₁.setTop (mkF m 0 #[.val (.ref b), .val (.int (Int32.ofNat o)), .val (.ref d), .val (.int (Int32.ofNat q)), .val (.int (Int32.ofNat len)), .unset, .unset] [])) := entry rfl
  have hA0 := hA.1.mv X0.warmed.alike hh0
  have hB0 := hB.mv X0.warmed.alike hh0
  have a31 := hA.1.2.2.2
  have c2 : Steps p.tables e below (s₁.setTop (entryFrame m #[.ref b, .int (Int32.ofNat o), .ref d, .int (Int32.ofNat q), .int (Int32.ofNat len)] 7)) (s₁.setTop (mkF m 3 #[.val (.ref b), .val (.int (Int32.ofNat o)), .val (.ref d), .val (.int (Int32.ofNat q)), .val (.int (Int32.ofNat len)), .val (.int 0), .unset] [])) := c1.trans (by
    refine iconstV X0.here hexec rfl 0 (hb hbytes d0) (by decide) ?_
    refine XS.istore X0.here hexec rfl (hb hbytes d1) rfl rfl ?_
    exact Steps.refl _)
  have loop : ∀ (r i : Nat), i + r = len → ∀ (z : Slot), (z = .unset ∨ ∃ w, z = .val w ∧ w.category = 1) → ∀ (Tl : State) (Bk : Cell), Stand p l e { frames := 0, locals := 0, cells := 0, slots := 0 } s m #[.ref b, .int (Int32.ofNat o), .ref d, .int (Int32.ofNat q), .int (Int32.ofNat len)] below meth c Tl ([] ++ copyLocs d q i) 0 0 → Put d Bk s₁ Tl → Laid B Bk q (q + i) (fun j => Value.int (lo8 (cv A (o + (j - q))))) →
      Steps p.tables e below (s₁.setTop (entryFrame m #[.ref b, .int (Int32.ofNat o), .ref d, .int (Int32.ofNat q), .int (Int32.ofNat len)] 7)) (Tl.setTop (mkF m 3 #[.val (.ref b), .val (.int (Int32.ofNat (o + i))), .val (.ref d), .val (.int (Int32.ofNat (q + i))), .val (.int (Int32.ofNat len)), .val (.int (Int32.ofNat i)), z] [])) → ∃ (T' : State) (B' : Cell) (z' : Slot), Stand p l e { frames := 0, locals := 0, cells := 0, slots := 0 } s m #[.ref b, .int (Int32.ofNat o), .ref d, .int (Int32.ofNat q), .int (Int32.ofNat len)] below meth c T' ([] ++ copyLocs d q len) 0 0 ∧ Put d B' s₁ T' ∧ Laid B B' q (q + len) (fun j => Value.int (lo8 (cv A (o + (j - q))))) ∧
      Steps p.tables e below (s₁.setTop (entryFrame m #[.ref b, .int (Int32.ofNat o), .ref d, .int (Int32.ofNat q), .int (Int32.ofNat len)] 7)) (T'.setTop (mkF m 3 #[.val (.ref b), .val (.int (Int32.ofNat (o + len))), .val (.ref d), .val (.int (Int32.ofNat (q + len))), .val (.int (Int32.ofNat len)), .val (.int (Int32.ofNat len)), z'] [])) := by
    intro r
    induction r with
    | zero =>
      intro i hi z hz Tl Bk Xl pl fl cl
      have hil : i = len := by omega
      rw [hil] at Xl fl cl
      exact ⟨Tl, Bk, z, Xl, pl, fl, cl⟩
    | succ r ih =>
      intro i hi z hz Tl Bk Xl pl fl cl
      have all := X0.warmed.alike.symm.trans Xl.warmed.alike
      have hAl := hA0.keep all (pl.other hne hA0.1)
      have hBk := hB0.like all pl.1 fl.1 fl.2.1 fl.2.2.1
      have hlt : q + i < Bk.slots.size := by rw [fl.2.2.1]; omega
      have c3 : Steps p.tables e below (s₁.setTop (entryFrame m #[.ref b, .int (Int32.ofNat o), .ref d, .int (Int32.ofNat q), .int (Int32.ofNat len)] 7)) (Tl.setTop (mkF m 12 #[.val (.ref b), .val (.int (Int32.ofNat (o + i))), .val (.ref d), .val (.int (Int32.ofNat (q + i))), .val (.int (Int32.ofNat len)), .val (.int (Int32.ofNat i)), z] [.int (Int32.ofNat (o + i)), .ref b])) := cl.trans (by
        refine XS.iload Xl.here hexec rfl (hb hbytes d3) rfl ?_
        refine XS.iload Xl.here hexec rfl (hb hbytes d5) rfl ?_
        refine XS.icmpNo Xl.here hexec rfl (hb hbytes d7) rfl (ii_ge_f (lt32 (by omega) (by omega))) ?_
        refine XS.aloadN Xl.here hexec rfl (hb hbytes d10) rfl rfl ?_
        refine XS.iloadN Xl.here hexec rfl (hb hbytes d11) rfl ?_
        exact Steps.refl _)
      have c4 : Steps p.tables e below (s₁.setTop (entryFrame m #[.ref b, .int (Int32.ofNat o), .ref d, .int (Int32.ofNat q), .int (Int32.ofNat len)] 7)) (Tl.setTop (mkF m 13 #[.val (.ref b), .val (.int (Int32.ofNat (o + i))), .val (.ref d), .val (.int (Int32.ofNat (q + i))), .val (.int (Int32.ofNat len)), .val (.int (Int32.ofNat i)), z] [.int (cv A (o + i))])) := c3.trans (by
        refine Xl.aget hexec hAl rfl (hA.get (i := o + i) (by omega)) rfl rfl (hb hbytes d12) ?_
        exact Steps.refl _)
      have c5 : Steps p.tables e below (s₁.setTop (entryFrame m #[.ref b, .int (Int32.ofNat o), .ref d, .int (Int32.ofNat q), .int (Int32.ofNat len)] 7)) (Tl.setTop (mkF m 15 #[.val (.ref b), .val (.int (Int32.ofNat (o + i))), .val (.ref d), .val (.int (Int32.ofNat (q + i))), .val (.int (Int32.ofNat len)), .val (.int (Int32.ofNat i)), .val (.int (cv A (o + i)))] [])) := c4.trans (by
        refine XS.istoreS Xl.here hexec rfl (hb hbytes d13) rfl rfl hz ?_
        exact Steps.refl _)
      have c6 : Steps p.tables e below (s₁.setTop (entryFrame m #[.ref b, .int (Int32.ofNat o), .ref d, .int (Int32.ofNat q), .int (Int32.ofNat len)] 7)) (Tl.setTop (mkF m 31 #[.val (.ref b), .val (.int (Int32.ofNat (o + i))), .val (.ref d), .val (.int (Int32.ofNat (q + i))), .val (.int (Int32.ofNat len)), .val (.int (Int32.ofNat i)), .val (.int (cv A (o + i)))] [.int (lo8 (cv A (o + i))), .int (Int32.ofNat (q + i)), .ref d])) := c5.trans (by
        refine XS.iload Xl.here hexec rfl (hb hbytes d15) rfl ?_
        refine sipushV Xl.here hexec rfl 255 (hb hbytes d17) (by decide) ?_
        refine XS.icmpYes Xl.here hexec rfl (pc0 := 20) rfl (hb hbytes d20) rfl (ii_le_t (hp i (by omega))) (by decide) rfl ?_
        refine XS.aloadN Xl.here hexec rfl (hb hbytes d26) rfl rfl ?_
        refine XS.iloadN Xl.here hexec rfl (hb hbytes d27) rfl ?_
        refine XS.iload Xl.here hexec rfl (hb hbytes d28) rfl ?_
        refine i2b Xl.here hexec rfl (hb hbytes d30) rfl ?_
        exact Steps.refl _)
      obtain ⟨T7, X7, p7, st7⟩ := Xl.aput hexec hBk rfl hlt rfl (fits_lo8 (cv A (o + i))) (g := (mkF m 31 #[.val (.ref b), .val (.int (Int32.ofNat (o + i))), .val (.ref d), .val (.int (Int32.ofNat (q + i))), .val (.int (Int32.ofNat len)), .val (.int (Int32.ofNat i)), .val (.int (cv A (o + i)))] [.int (lo8 (cv A (o + i))), .int (Int32.ofNat (q + i)), .ref d])) rfl (rest := []) rfl (hb hbytes d31)
      have c8 : Steps p.tables e below (s₁.setTop (entryFrame m #[.ref b, .int (Int32.ofNat o), .ref d, .int (Int32.ofNat q), .int (Int32.ofNat len)] 7)) (T7.setTop (mkF m 32 #[.val (.ref b), .val (.int (Int32.ofNat (o + i))), .val (.ref d), .val (.int (Int32.ofNat (q + i))), .val (.int (Int32.ofNat len)), .val (.int (Int32.ofNat i)), .val (.int (cv A (o + i)))] [])) := c6.trans (st7 _ (Steps.refl _))
      have c9 : Steps p.tables e below (s₁.setTop (entryFrame m #[.ref b, .int (Int32.ofNat o), .ref d, .int (Int32.ofNat q), .int (Int32.ofNat len)] 7)) (T7.setTop (mkF m 3 #[.val (.ref b), .val (.int (Int32.ofNat (o + i) + 1)), .val (.ref d), .val (.int (Int32.ofNat (q + i) + 1)), .val (.int (Int32.ofNat len)), .val (.int (Int32.ofNat i + 1)), .val (.int (cv A (o + i)))] [])) := c8.trans (by
        refine iincV X7.here hexec rfl 1 (hb hbytes d32) (by decide) rfl rfl ?_
        refine iincV X7.here hexec rfl 1 (hb hbytes d35) (by decide) rfl rfl ?_
        refine iincV X7.here hexec rfl 1 (hb hbytes d38) (by decide) rfl rfl ?_
        refine XS.goto X7.here hexec rfl (pc0 := 41) rfl (hb hbytes d41) (by decide) rfl ?_
        exact Steps.refl _)
      have c10 : Steps p.tables e below (s₁.setTop (entryFrame m #[.ref b, .int (Int32.ofNat o), .ref d, .int (Int32.ofNat q), .int (Int32.ofNat len)] 7)) (T7.setTop (mkF m 3 #[.val (.ref b), .val (.int (Int32.ofNat (o + (i + 1)))), .val (.ref d), .val (.int (Int32.ofNat (q + (i + 1)))), .val (.int (Int32.ofNat len)), .val (.int (Int32.ofNat (i + 1))), .val (.int (cv A (o + i)))] [])) := by
        have := c9
        rw [succ32, succ32, succ32] at this
        exact this
      exact ih (i + 1) (by omega) _ (Or.inr ⟨_, rfl, rfl⟩) T7 _ (by rw [copyLocs_step, ← List.append_assoc]; exact X7) (pl.trans p7) (fl.step (by omega) hlt (by simp)) c10
  obtain ⟨T9, B9, z9, X9, p9, f9, g9⟩ := loop len 0 (by omega) .unset (Or.inl rfl) s₁ B (by simpa [copyLocs] using X0) ⟨hB0.1, fun _ _ => rfl, rfl⟩ (Laid.zero _ _ _) c2
  have c11 : Steps p.tables e below (s₁.setTop (entryFrame m #[.ref b, .int (Int32.ofNat o), .ref d, .int (Int32.ofNat q), .int (Int32.ofNat len)] 7)) (T9.setTop (mkF m 46 #[.val (.ref b), .val (.int (Int32.ofNat (o + len))), .val (.ref d), .val (.int (Int32.ofNat (q + len))), .val (.int (Int32.ofNat len)), .val (.int (Int32.ofNat len)), z9] [.int (Int32.ofNat len)])) := g9.trans (by
    refine XS.iload X9.here hexec rfl (hb hbytes d3) rfl ?_
    refine XS.iload X9.here hexec rfl (hb hbytes d5) rfl ?_
    refine XS.icmpYes X9.here hexec rfl (pc0 := 7) rfl (hb hbytes d7) rfl (ii_ge_t (nlt32 (by omega) (Nat.le_refl _))) (by decide) rfl ?_
    refine XS.iload X9.here hexec rfl (hb hbytes d44) rfl ?_
    exact Steps.refl _)
  exact ⟨T9, some (.int (Int32.ofNat len)), _, _, _, X9, by simp, rfl, rfl, (fun h => by cases h), ⟨rfl, B9, p9.from hh0, f9⟩, fun fs hl => c11.trans (X9.ireturnOut hexec hret rfl (Or.inl rfl) (hb hbytes d46) hl)⟩
end Cmp5
namespace Cmp3
def yN : MethodName := ⟨"java/lang/StringUTF16", "compress", "([CII)[B"⟩
abbrev yB : ByteArray := jdk_52_method_16_code
theorem d0 : decode yB 0 = .ok (.iload_n 2, 1) := by decide +kernel
theorem d1 : decode yB 1 = .ok (.newarray .byte, 2) := by decide +kernel
theorem d3 : decode yB 3 = .ok (.astore_n 3, 1) := by decide +kernel
theorem d4 : decode yB 4 = .ok (.aload_n 0, 1) := by decide +kernel
theorem d5 : decode yB 5 = .ok (.iload_n 1, 1) := by decide +kernel
theorem d6 : decode yB 6 = .ok (.aload_n 3, 1) := by decide +kernel
theorem d7 : decode yB 7 = .ok (.iconst 0, 1) := by decide +kernel
theorem d8 : decode yB 8 = .ok (.iload_n 2, 1) := by decide +kernel
theorem d9 : decode yB 9 = .ok (.invokestatic 115, 3) := by decide +kernel
theorem d12 : decode yB 12 = .ok (.istore 4, 2) := by decide +kernel
theorem d14 : decode yB 14 = .ok (.iload 4, 2) := by decide +kernel
theorem d16 : decode yB 16 = .ok (.iload_n 2, 1) := by decide +kernel
theorem d17 : decode yB 17 = .ok (.if_icmp (.eq) 40, 3) := by decide +kernel
theorem d57 : decode yB 57 = .ok (.aload_n 3, 1) := by decide +kernel
theorem d58 : decode yB 58 = .ok (.areturn, 1) := by decide +kernel
def site : List Cond := [.arrayClass .byte, Cmp5.tab] ++ staticW U16 115 Cmp5.yN
def tab : Cond := tabOf yN yB 6 (some (.array .byte)) site
def P (b : Addr) (A : Cell) (o len : Nat) (args : Array Value) (s : State) : Prop := args = #[.ref b, .int (Int32.ofNat o), .int (Int32.ofNat len)] ∧ Ch b A s ∧ o + len ≤ A.slots.size ∧ len ≤ 536870912 ∧ ∀ i, i < len → ¬ 255 < cv A (o + i)
def E (b : Addr) (A : Cell) (o len : Nat) (r : Option Value) (s u : State) : Prop := NewArr .byte "[B" len (fun j => .int (lo8 (cv A (o + j)))) r s u ∧ u.heap.size = s.heap.size + 1
/-- no char of the range above 255: a new byte[] of their low bytes -/
theorem law (l : Launch) (b : Addr) (A : Cell) (o len : Nat) : Law l yN 3 3 1 18 yB 6 (some (.array .byte)) site (P b A o len) (E b A o len) [] 1 len := by
  refine Law.of_walk (plainFor_of_name (by decide +kernel)) (by decide +kernel) (by decide +kernel) (by decide) (fun _ _ h => by rw [h.1]; rfl) (fun _ U U' hal hh h => ⟨h.1, h.2.1.mv hal hh, h.2.2⟩) (fun r U U' V V' h1 hal h2 h => ⟨NewArr.mv r U U' V V' h1 hal h2 h.1, by rw [h1, h2]; exact h.2⟩) ?_
  intro p e s m args below meth c s₁ X0 hexec hbytes hml hret hlk hnm hown hh0 W hP
  obtain ⟨rfl, hA, l1, l2, hp⟩ := hP
  have a31 := hA.1.2.2.2
  have c1 : Steps p.tables e below (s₁.setTop (entryFrame m #[.ref b, .int (Int32.ofNat o), .int (Int32.ofNat len)] 6)) (s₁.setTop (mkF m 0 #[.val (.ref b), .val (.int (Int32.ofNat o)), .val (.int (Int32.ofNat len)), .unset, .unset, .unset] [])) := entry rfl
  have c2 : Steps p.tables e below (s₁.setTop (entryFrame m #[.ref b, .int (Int32.ofNat o), .int (Int32.ofNat len)] 6)) (s₁.setTop (mkF m 1 #[.val (.ref b), .val (.int (Int32.ofNat o)), .val (.int (Int32.ofNat len)), .unset, .unset, .unset] [.int (Int32.ofNat len)])) := c1.trans (by
    refine XS.iloadN X0.here hexec rfl (hb hbytes d0) rfl ?_
    exact Steps.refl _)
  obtain ⟨T3, B3, X3, ba3, bs3, bv3, bh3, bf3, st3⟩ := X0.anew hexec (atype := .byte) (wk W (.arrayClass .byte)) rfl (by show len * 1 ≤ _; omega) (by omega) (g := (mkF m 1 #[.val (.ref b), .val (.int (Int32.ofNat o)), .val (.int (Int32.ofNat len)), .unset, .unset, .unset] [.int (Int32.ofNat len)])) rfl (hb hbytes d1) (rest := []) rfl (Nat.le_refl _) (by show 0 + len ≤ len; omega)
  rw [hh0] at ba3 st3
  have kp3 : XT.Kept s T3 := (XT.Kept.of_eq hh0).push bh3
  have hA3 := hA.keep X3.warmed.alike (kp3 _ _ hA.1.1)
  have hne : b ≠ s.heap.size := hA.1.ne
  have c4 : Steps p.tables e below (s₁.setTop (entryFrame m #[.ref b, .int (Int32.ofNat o), .int (Int32.ofNat len)] 6)) (T3.setTop (mkF m 3 #[.val (.ref b), .val (.int (Int32.ofNat o)), .val (.int (Int32.ofNat len)), .unset, .unset, .unset] [.ref s.heap.size])) := c2.trans (st3 _ (Steps.refl _))
  have c5 : Steps p.tables e below (s₁.setTop (entryFrame m #[.ref b, .int (Int32.ofNat o), .int (Int32.ofNat len)] 6)) (T3.setTop (mkF m 9 #[.val (.ref b), .val (.int (Int32.ofNat o)), .val (.int (Int32.ofNat len)), .val (.ref s.heap.size), .unset, .unset] [.int (Int32.ofNat len), .int 0, .ref s.heap.size, .int (Int32.ofNat o), .ref b])) := c4.trans (by
    refine XS.astoreN X3.here hexec rfl (hb hbytes d3) rfl rfl rfl ?_
    refine XS.aloadN X3.here hexec rfl (hb hbytes d4) rfl rfl ?_
    refine XS.iloadN X3.here hexec rfl (hb hbytes d5) rfl ?_
    refine XS.aloadN X3.here hexec rfl (hb hbytes d6) rfl rfl ?_
    refine iconstV X3.here hexec rfl 0 (hb hbytes d7) (by decide) ?_
    refine XS.iloadN X3.here hexec rfl (hb hbytes d8) rfl ?_
    exact Steps.refl _)
  obtain ⟨v6, T6, X6, E6, g6⟩ := X3.callS hexec (Cmp5.law l b A s.heap.size B3 o 0 len) hown (wks W (staticW U16 115 Cmp5.yN)) (wk W Cmp5.tab) (W := 0) (Nat.le_of_ble_eq_true rfl) (Nat.le_of_ble_eq_true rfl) (Nat.le_refl _) (by show 0 + len + 0 ≤ len; omega) (g := (mkF m 9 #[.val (.ref b), .val (.int (Int32.ofNat o)), .val (.int (Int32.ofNat len)), .val (.ref s.heap.size), .unset, .unset] [.int (Int32.ofNat len), .int (Int32.ofNat 0), .ref s.heap.size, .int (Int32.ofNat o), .ref b])) rfl (by rw [hml]; rfl) c5 (argsL := [.ref b, .int (Int32.ofNat o), .ref s.heap.size, .int (Int32.ofNat 0), .int (Int32.ofNat len)]) (rest := []) rfl rfl (by show 2 * 0 + 0 ≤ _; decide) (hb hbytes d9) (⟨rfl, hA3, ba3, hne, l1, by rw [bs3]; simp, hp⟩)
  obtain ⟨rfl, B6, p6, f6⟩ := E6
  have c7 : Steps p.tables e below (s₁.setTop (entryFrame m #[.ref b, .int (Int32.ofNat o), .int (Int32.ofNat len)] 6)) (T6.setTop (mkF m 12 #[.val (.ref b), .val (.int (Int32.ofNat o)), .val (.int (Int32.ofNat len)), .val (.ref s.heap.size), .unset, .unset] [.int (Int32.ofNat len)])) := g6
  have c8 : Steps p.tables e below (s₁.setTop (entryFrame m #[.ref b, .int (Int32.ofNat o), .int (Int32.ofNat len)] 6)) (T6.setTop (mkF m 58 #[.val (.ref b), .val (.int (Int32.ofNat o)), .val (.int (Int32.ofNat len)), .val (.ref s.heap.size), .val (.int (Int32.ofNat len)), .unset] [.ref s.heap.size])) := c7.trans (by
    refine XS.istore X6.here hexec rfl (hb hbytes d12) rfl rfl ?_
    refine XS.iload X6.here hexec rfl (hb hbytes d14) rfl ?_
    refine XS.iloadN X6.here hexec rfl (hb hbytes d16) rfl ?_
    refine XS.icmpYes X6.here hexec rfl (pc0 := 17) rfl (hb hbytes d17) rfl (ii_eq_t rfl) (by decide) rfl ?_
    refine XS.aloadN X6.here hexec rfl (hb hbytes d57) rfl rfl ?_
    exact Steps.refl _)
  have X8 := X6.wide (L' := []) (cells' := 1) (slots' := len) (fun x hx hlt => by
    simp only [List.nil_append, copyLocs, List.mem_map, List.mem_range] at hx
    obtain ⟨i, -, rfl⟩ := hx
    exact absurd hlt (Nat.lt_irrefl _)) (Nat.le_refl _) (by omega)
  exact ⟨T6, some (.ref s.heap.size), _, _, _, X8, rfl, rfl, rfl, (fun h => by cases h), ⟨⟨rfl, B6, ba3.like (X3.warmed.alike.symm.trans X6.warmed.alike) p6.1 f6.1 f6.2.1 f6.2.2.1, f6.2.1.trans bv3, by rw [X6.warmed.alike.findClass, f6.1]; exact bf3, by rw [f6.2.2.1, bs3]; simp, fun j hj => by rw [f6.2.2.2 j, if_pos (by omega)]; rfl, kp3.put p6 (Nat.le_refl _)⟩, by rw [p6.2.2, bh3, hh0]; simp⟩, fun fs hl => c8.trans (X8.areturnOut hexec rfl hret rfl (hb hbytes d58) hl)⟩
end Cmp3
namespace CodL
def yN : MethodName := ⟨"java/lang/StringUTF16", "coderFromArrayLen", "([BI)B"⟩
abbrev yB : ByteArray := jdk_52_method_15_code
theorem d0 : decode yB 0 = .ok (.iload_n 1, 1) := by decide +kernel
theorem d1 : decode yB 1 = .ok (.aload_n 0, 1) := by decide +kernel
theorem d2 : decode yB 2 = .ok (.arraylength, 1) := by decide +kernel
theorem d3 : decode yB 3 = .ok (.isub, 1) := by decide +kernel
theorem d4 : decode yB 4 = .ok (.bipush 31, 2) := by decide +kernel
theorem d6 : decode yB 6 = .ok (.iushr, 1) := by decide +kernel
theorem d7 : decode yB 7 = .ok (.i2b, 1) := by decide +kernel
theorem d8 : decode yB 8 = .ok (.ireturn, 1) := by decide +kernel
def site : List Cond := []
def tab : Cond := tabOf yN yB 2 (some .byte) site
def P (d : Addr) (B : Cell) (args : Array Value) (s : State) : Prop := args = #[.ref d, .int (Int32.ofNat B.slots.size)] ∧ Arr .byte d B s
def E (r : Option Value) (s u : State) : Prop := XT.PureE (some (.int 0)) r s u
/-- an array as long as the number of chars: LATIN1 -/
theorem law (l : Launch) (d : Addr) (B : Cell) : Law l yN 2 2 0 0 yB 2 (some .byte) site (P d B) E [] 0 0 := by
  refine Law.of_walk (plainFor_of_name (by decide +kernel)) (by decide +kernel) (by decide +kernel) (by decide) (fun _ _ h => by rw [h.1]; rfl) (fun _ U U' hal hh h => ⟨h.1, h.2.mv hal hh⟩) (fun r U U' V V' h1 hal h2 h => XT.PureE.mv r U U' V V' h1 hal h2 h) ?_
  intro p e s m args below meth c s₁ X0 hexec hbytes hml hret hlk hnm hown hh0 W hP
  obtain ⟨rfl, hB⟩ := hP
  have hB0 := hB.mv X0.warmed.alike hh0
  have c1 : Steps p.tables e below (s₁.setTop (entryFrame m #[.ref d, .int (Int32.ofNat B.slots.size)] 2)) (s₁.setTop (mkF m 0 #[.val (.ref d), .val (.int (Int32.ofNat B.slots.size))] [])) := entry rfl
  have c2 : Steps p.tables e below (s₁.setTop (entryFrame m #[.ref d, .int (Int32.ofNat B.slots.size)] 2)) (s₁.setTop (mkF m 2 #[.val (.ref d), .val (.int (Int32.ofNat B.slots.size))] [.ref d, .int (Int32.ofNat B.slots.size)])) := c1.trans (by
    refine XS.iloadN X0.here hexec rfl (hb hbytes d0) rfl ?_
    refine XS.aloadN X0.here hexec rfl (hb hbytes d1) rfl rfl ?_
    exact Steps.refl _)
  have c3 : Steps p.tables e below (s₁.setTop (entryFrame m #[.ref d, .int (Int32.ofNat B.slots.size)] 2)) (s₁.setTop (mkF m 8 #[.val (.ref d), .val (.int (Int32.ofNat B.slots.size))] [.int (lo8 (ushr (Int32.ofNat B.slots.size - Int32.ofNat B.slots.size) 31))])) := c2.trans (by
    refine X0.alen hexec hB0 rfl rfl (hb hbytes d2) ?_
    refine XS.isub X0.here hexec rfl (hb hbytes d3) rfl ?_
    refine bipushV X0.here hexec rfl 31 (hb hbytes d4) (by decide) ?_
    refine iushr X0.here hexec rfl (hb hbytes d6) rfl ?_
    refine i2b X0.here hexec rfl (hb hbytes d7) rfl ?_
    exact Steps.refl _)
  have e0 : lo8 (ushr (Int32.ofNat B.slots.size - Int32.ofNat B.slots.size) 31) = 0 := by rw [Int32.sub_self]; decide
  rw [e0] at c3
  exact ⟨s₁, some (.int 0), _, _, _, X0, rfl, rfl, rfl, (fun h => by cases h), ⟨rfl, hh0⟩, fun fs hl => c3.trans (X0.ireturnOut hexec hret rfl (Or.inr (Or.inr (Or.inl rfl))) (hb hbytes d8) hl)⟩
end CodL
/-- the String at a is Latin-1 over a new byte[] (the heap's one new cell): the low bytes of the len chars of A from o on; every cell but a is kept -/
def Got (a : Addr) (D : Cell) (fV fC : Field) (A : Cell) (o len : Nat) (r : Option Value) (s u : State) : Prop := r = none ∧ ∃ D' V : Cell, Blank "java/lang/String" a D' u ∧ Same D D' [fV.slot, fC.slot] ∧ D'.slots[fV.slot]? = some (.ref s.heap.size) ∧ D'.slots[fC.slot]? = some (.int 0) ∧ Arr .byte s.heap.size V u ∧ V.vm = .none ∧ u.vm.findClass "[B" = some V.cls ∧ V.slots.size = len ∧ (∀ j, j < len → V.slots[j]? = some (.int (lo8 (cv A (o + j))))) ∧ (∀ (y : Addr) (c : Cell), y ≠ a → s.heap[y]? = some c → u.heap[y]? = some c) ∧ u.heap.size = s.heap.size + 1
theorem Got.mv {a : Addr} {D A : Cell} {fV fC : Field} {o len : Nat} : ∀ r (U U' V V' : State), U'.heap = U.heap → V.vm.Alike V'.vm → V'.heap = V.heap → Got a D fV fC A o len r U V → Got a D fV fC A o len r U' V' :=
  fun r U U' V V' h1 hal h2 ⟨e0, D', X, a1, a2, a3, a4, a5, a6, a7, a8, a9, a10, a11⟩ => ⟨e0, D', X, a1.mv hal h2, a2, by rw [h1]; exact a3, a4, by rw [h1]; exact a5.mv hal h2, a6, by rw [hal.findClass]; exact a7, a8, a9, by rw [h1, h2]; exact a10, by rw [h1, h2]; exact a11⟩
namespace New4
def yN : MethodName := ⟨"java/lang/String", "<init>", "([CIILjava/lang/Void;)V"⟩
abbrev yB : ByteArray := jdk_42_method_149_code
theorem d0 : decode yB 0 = .ok (.aload_n 0, 1) := by decide +kernel
theorem d1 : decode yB 1 = .ok (.invokespecial 1, 3) := by decide +kernel
theorem d4 : decode yB 4 = .ok (.iload_n 3, 1) := by decide +kernel
theorem d5 : decode yB 5 = .ok (.ifCond (.ne) 22, 3) := by decide +kernel
theorem d27 : decode yB 27 = .ok (.getstatic 38, 3) := by decide +kernel
theorem d30 : decode yB 30 = .ok (.ifCond (.eq) 28, 3) := by decide +kernel
theorem d33 : decode yB 33 = .ok (.aload_n 1, 1) := by decide +kernel
theorem d34 : decode yB 34 = .ok (.iload_n 2, 1) := by decide +kernel
theorem d35 : decode yB 35 = .ok (.iload_n 3, 1) := by decide +kernel
theorem d36 : decode yB 36 = .ok (.invokestatic 177, 3) := by decide +kernel
theorem d39 : decode yB 39 = .ok (.astore 5, 2) := by decide +kernel
theorem d41 : decode yB 41 = .ok (.aload_n 0, 1) := by decide +kernel
theorem d42 : decode yB 42 = .ok (.aload 5, 2) := by decide +kernel
theorem d44 : decode yB 44 = .ok (.iload_n 3, 1) := by decide +kernel
theorem d45 : decode yB 45 = .ok (.invokestatic 47, 3) := by decide +kernel
theorem d48 : decode yB 48 = .ok (.putfield 15, 3) := by decide +kernel
theorem d51 : decode yB 51 = .ok (.aload_n 0, 1) := by decide +kernel
theorem d52 : decode yB 52 = .ok (.aload 5, 2) := by decide +kernel
theorem d54 : decode yB 54 = .ok (.putfield 9, 3) := by decide +kernel
theorem d57 : decode yB 57 = .ok (.return_, 1) := by decide +kernel
def site : List Cond := [.fieldLink "java/lang/String" 38 "java/lang/String" "COMPACT_STRINGS" "Z", Cmp3.tab, CodL.tab, .laysFinal "java/lang/String" "java/lang/String" "value" "[B", .fieldLink "java/lang/String" 9 "java/lang/String" "value" "[B", .laysFinal "java/lang/String" "java/lang/String" "coder" "B", .fieldLink "java/lang/String" 15 "java/lang/String" "coder" "B"] ++ objW "java/lang/String" 1 ++ staticW "java/lang/String" 177 Cmp3.yN ++ staticW "java/lang/String" 47 CodL.yN
def tab : Cond := tabOf yN yB 6 none site
def P (a : Addr) (D : Cell) (fV fC : Field) (b : Addr) (A : Cell) (z : Int32) (o len : Nat) (args : Array Value) (s : State) : Prop := args = #[.ref a, .ref b, .int (Int32.ofNat o), .int (Int32.ofNat len), .null] ∧ Blank "java/lang/String" a D s ∧ Found "java/lang/String" "value" "[B" fV s ∧ Found "java/lang/String" "coder" "B" fC s ∧ Ch b A s ∧ StaticIs s "java/lang/String" "COMPACT_STRINGS" "Z" (.int z) ∧ ¬ z = 0 ∧ 0 < len ∧ o + len ≤ A.slots.size ∧ len ≤ 536870912 ∧ ∀ i, i < len → ¬ 255 < cv A (o + i)
def E (a : Addr) (D : Cell) (fV fC : Field) (A : Cell) (o len : Nat) (r : Option Value) (s u : State) : Prop := Got a D fV fC A o len r s u
/-- len > 0, no char of the range above 255: a Latin-1 String of their low bytes -/
theorem law (l : Launch) (a : Addr) (D : Cell) (fV fC : Field) (b : Addr) (A : Cell) (z : Int32) (o len : Nat) : Law l yN 5 4 2 35 yB 6 none site (P a D fV fC b A z o len) (E a D fV fC A o len) [⟨a, fC.slot⟩, ⟨a, fV.slot⟩] 1 len := by
  refine Law.of_walk (plainFor_of_name (by decide +kernel)) (by decide +kernel) (by decide +kernel) (by decide) (fun _ _ h => by rw [h.1]; rfl) (fun _ U U' hal hh h => ⟨h.1, h.2.1.mv hal hh, h.2.2.1.al hal, h.2.2.2.1.al hal, h.2.2.2.2.1.mv hal hh, h.2.2.2.2.2.1.there hal hh, h.2.2.2.2.2.2⟩) (fun r U U' V V' h1 hal h2 h => Got.mv r U U' V V' h1 hal h2 h) ?_
  intro p e s m args below meth c s₁ X0 hexec hbytes hml hret hlk hnm hown hh0 W hP
  obtain ⟨rfl, hB, f1, f2, hA, s1, hz, l0, l1, l2, hp⟩ := hP
  have a31 := hA.1.2.2.2
  have c1 : Steps p.tables e below (s₁.setTop (entryFrame m #[.ref a, .ref b, .int (Int32.ofNat o), .int (Int32.ofNat len), .null] 6)) (s₁.setTop (mkF m 0 #[.val (.ref a), .val (.ref b), .val (.int (Int32.ofNat o)), .val (.int (Int32.ofNat len)), .val .null, .unset] [])) := entry rfl
  have c2 : Steps p.tables e below (s₁.setTop (entryFrame m #[.ref a, .ref b, .int (Int32.ofNat o), .int (Int32.ofNat len), .null] 6)) (s₁.setTop (mkF m 1 #[.val (.ref a), .val (.ref b), .val (.int (Int32.ofNat o)), .val (.int (Int32.ofNat len)), .val .null, .unset] [.ref a])) := c1.trans (by
    refine XS.aloadN X0.here hexec rfl (hb hbytes d0) rfl rfl ?_
    exact Steps.refl _)
  obtain ⟨T3, X3, q3, st3⟩ := X0.oinit hexec hown (wks W (objW "java/lang/String" 1)) (g := (mkF m 1 #[.val (.ref a), .val (.ref b), .val (.int (Int32.ofNat o)), .val (.int (Int32.ofNat len)), .val .null, .unset] [.ref a])) rfl (by rw [hml]; rfl) (rest := []) rfl (hb hbytes d1) (W := 0) (by show 2 * 0 + 0 ≤ _; decide) (Nat.le_of_ble_eq_true rfl) (Nat.le_of_ble_eq_true rfl)
  have hh3 := q3.trans hh0
  have c4 : Steps p.tables e below (s₁.setTop (entryFrame m #[.ref a, .ref b, .int (Int32.ofNat o), .int (Int32.ofNat len), .null] 6)) (T3.setTop (mkF m 27 #[.val (.ref a), .val (.ref b), .val (.int (Int32.ofNat o)), .val (.int (Int32.ofNat len)), .val .null, .unset] [])) := (c2.trans (st3 _ (Steps.refl _))).trans (by
    refine XS.iloadN X3.here hexec rfl (hb hbytes d4) rfl ?_
    refine XS.ifYes X3.here hexec rfl (pc0 := 5) rfl (hb hbytes d5) rfl (i0_ne_t (nz32 (by omega) l0)) (by decide) rfl ?_
    exact Steps.refl _)
  obtain ⟨T5, X5, q5, st5⟩ := X3.sget hexec hown (wk W (.fieldLink "java/lang/String" 38 "java/lang/String" "COMPACT_STRINGS" "Z")) s1 (fun _ _ h => by rw [hh3]; exact h) (g := (mkF m 27 #[.val (.ref a), .val (.ref b), .val (.int (Int32.ofNat o)), .val (.int (Int32.ofNat len)), .val .null, .unset] [])) rfl (hb hbytes d27)
  have hh5 := q5.trans hh3
  have c6 : Steps p.tables e below (s₁.setTop (entryFrame m #[.ref a, .ref b, .int (Int32.ofNat o), .int (Int32.ofNat len), .null] 6)) (T5.setTop (mkF m 30 #[.val (.ref a), .val (.ref b), .val (.int (Int32.ofNat o)), .val (.int (Int32.ofNat len)), .val .null, .unset] [.int z])) := c4.trans (st5 _ (Steps.refl _))
  have c7 : Steps p.tables e below (s₁.setTop (entryFrame m #[.ref a, .ref b, .int (Int32.ofNat o), .int (Int32.ofNat len), .null] 6)) (T5.setTop (mkF m 36 #[.val (.ref a), .val (.ref b), .val (.int (Int32.ofNat o)), .val (.int (Int32.ofNat len)), .val .null, .unset] [.int (Int32.ofNat len), .int (Int32.ofNat o), .ref b])) := c6.trans (by
    refine XS.ifNo X5.here hexec rfl (hb hbytes d30) rfl (i0_eq_f hz) ?_
    refine XS.aloadN X5.here hexec rfl (hb hbytes d33) rfl rfl ?_
    refine XS.iloadN X5.here hexec rfl (hb hbytes d34) rfl ?_
    refine XS.iloadN X5.here hexec rfl (hb hbytes d35) rfl ?_
    exact Steps.refl _)
  obtain ⟨v8, T8, X8, E8, g8⟩ := X5.callS hexec (Cmp3.law l b A o len) hown (wks W (staticW "java/lang/String" 177 Cmp3.yN)) (wk W Cmp3.tab) (W := 0) (Nat.le_of_ble_eq_true rfl) (Nat.le_of_ble_eq_true rfl) (Nat.le_refl _) (by show 0 + len ≤ len; omega) (g := (mkF m 36 #[.val (.ref a), .val (.ref b), .val (.int (Int32.ofNat o)), .val (.int (Int32.ofNat len)), .val .null, .unset] [.int (Int32.ofNat len), .int (Int32.ofNat o), .ref b])) rfl (by rw [hml]; rfl) c7 (argsL := [.ref b, .int (Int32.ofNat o), .int (Int32.ofNat len)]) (rest := []) rfl rfl (by show 2 * 0 + 0 ≤ _; decide) (hb hbytes d36) (⟨rfl, hA.mv X5.warmed.alike hh5, l1, l2, hp⟩)
  obtain ⟨e8, z8⟩ := E8
  obtain ⟨rfl, N, n1, n2, n3, n4, n5, n6⟩ := NewArr.mv _ T5 s _ _ hh5.symm (Vm.Alike.refl _) rfl e8
  rw [hh5] at z8
  have hB1 := hB.keep X8.warmed.alike (n6 _ _ hB.1)
  have hne : s.heap.size ≠ a := (Nat.ne_of_lt (Array.getElem?_eq_some_iff.mp hB.1).1).symm
  have c9 : Steps p.tables e below (s₁.setTop (entryFrame m #[.ref a, .ref b, .int (Int32.ofNat o), .int (Int32.ofNat len), .null] 6)) (T8.setTop (mkF m 39 #[.val (.ref a), .val (.ref b), .val (.int (Int32.ofNat o)), .val (.int (Int32.ofNat len)), .val .null, .unset] [.ref s.heap.size])) := g8
  have c10 : Steps p.tables e below (s₁.setTop (entryFrame m #[.ref a, .ref b, .int (Int32.ofNat o), .int (Int32.ofNat len), .null] 6)) (T8.setTop (mkF m 45 #[.val (.ref a), .val (.ref b), .val (.int (Int32.ofNat o)), .val (.int (Int32.ofNat len)), .val .null, .val (.ref s.heap.size)] [.int (Int32.ofNat N.slots.size), .ref s.heap.size, .ref a])) := by
    have hc : Steps p.tables e below (s₁.setTop (entryFrame m #[.ref a, .ref b, .int (Int32.ofNat o), .int (Int32.ofNat len), .null] 6)) (T8.setTop (mkF m 45 #[.val (.ref a), .val (.ref b), .val (.int (Int32.ofNat o)), .val (.int (Int32.ofNat len)), .val .null, .val (.ref s.heap.size)] [.int (Int32.ofNat len), .ref s.heap.size, .ref a])) := c9.trans (by
      refine XS.astore X8.here hexec rfl (hb hbytes d39) rfl rfl rfl ?_
      refine XS.aloadN X8.here hexec rfl (hb hbytes d41) rfl rfl ?_
      refine XS.aload X8.here hexec rfl (hb hbytes d42) rfl rfl ?_
      refine XS.iloadN X8.here hexec rfl (hb hbytes d44) rfl ?_
      exact Steps.refl _)
    rw [n4]; exact hc
  obtain ⟨v11, T11, X11, E11, g11⟩ := X8.callS hexec (CodL.law l s.heap.size N) hown (wks W (staticW "java/lang/String" 47 CodL.yN)) (wk W CodL.tab) (W := 1) (Nat.le_of_ble_eq_true rfl) (Nat.le_of_ble_eq_true rfl) (Nat.le_refl _) (by show 0 + len + 0 ≤ len; omega) (g := (mkF m 45 #[.val (.ref a), .val (.ref b), .val (.int (Int32.ofNat o)), .val (.int (Int32.ofNat len)), .val .null, .val (.ref s.heap.size)] [.int (Int32.ofNat N.slots.size), .ref s.heap.size, .ref a])) rfl (by rw [hml]; rfl) c10 (argsL := [.ref s.heap.size, .int (Int32.ofNat N.slots.size)]) (rest := [.ref a]) rfl rfl (by show 2 * 0 + (1 + 0) ≤ _; decide) (hb hbytes d45) (⟨rfl, n1⟩)
  obtain ⟨rfl, q11⟩ := E11
  have hB11 := hB1.mv (X8.warmed.alike.symm.trans X11.warmed.alike) q11
  have c12 : Steps p.tables e below (s₁.setTop (entryFrame m #[.ref a, .ref b, .int (Int32.ofNat o), .int (Int32.ofNat len), .null] 6)) (T11.setTop (mkF m 48 #[.val (.ref a), .val (.ref b), .val (.int (Int32.ofNat o)), .val (.int (Int32.ofNat len)), .val .null, .val (.ref s.heap.size)] [.int 0, .ref a])) := g11
  obtain ⟨T13, X13, p13, bl13, sl13, st13⟩ := X11.finit hexec hown (wk W (.fieldLink "java/lang/String" 15 "java/lang/String" "coder" "B")) (Or.inr ⟨_, (wk W (.laysFinal "java/lang/String" "java/lang/String" "coder" "B"))⟩) (Or.inl ⟨rfl, hnm⟩) f2 (Or.inl rfl) hB11 (t := .byte) (by decide +kernel) rfl (g := (mkF m 48 #[.val (.ref a), .val (.ref b), .val (.int (Int32.ofNat o)), .val (.int (Int32.ofNat len)), .val .null, .val (.ref s.heap.size)] [.int 0, .ref a])) rfl (rest := []) rfl (hb hbytes d48)
  have c14 : Steps p.tables e below (s₁.setTop (entryFrame m #[.ref a, .ref b, .int (Int32.ofNat o), .int (Int32.ofNat len), .null] 6)) (T13.setTop (mkF m 54 #[.val (.ref a), .val (.ref b), .val (.int (Int32.ofNat o)), .val (.int (Int32.ofNat len)), .val .null, .val (.ref s.heap.size)] [.ref s.heap.size, .ref a])) := (c12.trans (st13 _ (Steps.refl _))).trans (by
    refine XS.aloadN X13.here hexec rfl (hb hbytes d51) rfl rfl ?_
    refine XS.aload X13.here hexec rfl (hb hbytes d52) rfl rfl ?_
    exact Steps.refl _)
  obtain ⟨T15, X15, p15, bl15, sl15, st15⟩ := X13.finit hexec hown (wk W (.fieldLink "java/lang/String" 9 "java/lang/String" "value" "[B")) (Or.inr ⟨_, (wk W (.laysFinal "java/lang/String" "java/lang/String" "value" "[B"))⟩) (Or.inl ⟨rfl, hnm⟩) f1 (Or.inl rfl) bl13 (t := (.array .byte)) (by decide +kernel) rfl (g := (mkF m 54 #[.val (.ref a), .val (.ref b), .val (.int (Int32.ofNat o)), .val (.int (Int32.ofNat len)), .val .null, .val (.ref s.heap.size)] [.ref s.heap.size, .ref a])) rfl (rest := []) rfl (hb hbytes d54)
  have c16 : Steps p.tables e below (s₁.setTop (entryFrame m #[.ref a, .ref b, .int (Int32.ofNat o), .int (Int32.ofNat len), .null] 6)) (T15.setTop (mkF m 57 #[.val (.ref a), .val (.ref b), .val (.int (Int32.ofNat o)), .val (.int (Int32.ofNat len)), .val .null, .val (.ref s.heap.size)] [])) := c14.trans (st15 _ (Steps.refl _))
  have ap := apart (Or.inr ⟨_, (wk W (.laysFinal "java/lang/String" "java/lang/String" "value" "[B"))⟩) (Or.inr ⟨_, (wk W (.laysFinal "java/lang/String" "java/lang/String" "coder" "B"))⟩) f1 f2 (t₁ := .array .byte) (t₂ := .byte) (by decide +kernel) (by decide +kernel) (by decide)
  have al := X8.warmed.alike.symm.trans X15.warmed.alike
  have n7 : T11.heap[s.heap.size]? = some N := by rw [q11]; exact n1.1
  exact ⟨T15, none, _, _, _, X15, by simp, rfl, by omega, (fun _ => rfl), ⟨rfl, _, N, bl15, ((Same.refl D _).set _ (by simp)).set _ (by simp), sl15, (Cell.slots_setSlot_ne _ ap).trans sl13, n1.keep al (p15.other hne (p13.other hne n7)), n2, by rw [al.findClass]; exact n3, n4, n5, fun y c h1 h2 => p15.other h1 (p13.other h1 (by rw [q11]; exact n6 y c h2)), by rw [p15.2.2, p13.2.2, q11]; exact z8⟩, fun fs hl => c16.trans (X15.returnOut hexec hret (hb hbytes d57) hl)⟩
end New4
namespace New1
def yN : MethodName := ⟨"java/lang/String", "<init>", "([C)V"⟩
abbrev yB : ByteArray := jdk_42_method_3_code
theorem d0 : decode yB 0 = .ok (.aload_n 0, 1) := by decide +kernel
theorem d1 : decode yB 1 = .ok (.aload_n 1, 1) := by decide +kernel
theorem d2 : decode yB 2 = .ok (.iconst 0, 1) := by decide +kernel
theorem d3 : decode yB 3 = .ok (.aload_n 1, 1) := by decide +kernel
theorem d4 : decode yB 4 = .ok (.arraylength, 1) := by decide +kernel
theorem d5 : decode yB 5 = .ok (.aconst_null, 1) := by decide +kernel
theorem d6 : decode yB 6 = .ok (.invokespecial 27, 3) := by decide +kernel
theorem d9 : decode yB 9 = .ok (.return_, 1) := by decide +kernel
def site : List Cond := [New4.tab] ++ initW "java/lang/String" 27 New4.yN
def tab : Cond := tabOf yN yB 2 none site
def P (a : Addr) (D : Cell) (fV fC : Field) (b : Addr) (A : Cell) (z : Int32) (args : Array Value) (s : State) : Prop := args = #[.ref a, .ref b] ∧ Blank "java/lang/String" a D s ∧ Found "java/lang/String" "value" "[B" fV s ∧ Found "java/lang/String" "coder" "B" fC s ∧ Ch b A s ∧ StaticIs s "java/lang/String" "COMPACT_STRINGS" "Z" (.int z) ∧ ¬ z = 0 ∧ 0 < A.slots.size ∧ A.slots.size ≤ 536870912 ∧ ∀ i, i < A.slots.size → ¬ 255 < cv A i
def E (a : Addr) (D : Cell) (fV fC : Field) (A : Cell) (r : Option Value) (s u : State) : Prop := Got a D fV fC A 0 A.slots.size r s u
/-- new String(chars), not empty, no char above 255: a Latin-1 String of their low bytes -/
theorem law (l : Launch) (a : Addr) (D : Cell) (fV fC : Field) (b : Addr) (A : Cell) (z : Int32) : Law l yN 2 1 3 52 yB 2 none site (P a D fV fC b A z) (E a D fV fC A) [⟨a, fC.slot⟩, ⟨a, fV.slot⟩] 1 A.slots.size := by
  refine Law.of_walk (plainFor_of_name (by decide +kernel)) (by decide +kernel) (by decide +kernel) (by decide) (fun _ _ h => by rw [h.1]; rfl) (fun _ U U' hal hh h => ⟨h.1, h.2.1.mv hal hh, h.2.2.1.al hal, h.2.2.2.1.al hal, h.2.2.2.2.1.mv hal hh, h.2.2.2.2.2.1.there hal hh, h.2.2.2.2.2.2⟩) (fun r U U' V V' h1 hal h2 h => Got.mv r U U' V V' h1 hal h2 h) ?_
  intro p e s m args below meth c s₁ X0 hexec hbytes hml hret hlk hnm hown hh0 W hP
  obtain ⟨rfl, hB, f1, f2, hA, s1, hz, l0, l2, hp⟩ := hP
  have c1 : Steps p.tables e below (s₁.setTop (entryFrame m #[.ref a, .ref b] 2)) (s₁.setTop (mkF m 0 #[.val (.ref a), .val (.ref b)] [])) := entry rfl
  have c2 : Steps p.tables e below (s₁.setTop (entryFrame m #[.ref a, .ref b] 2)) (s₁.setTop (mkF m 6 #[.val (.ref a), .val (.ref b)] [.null, .int (Int32.ofNat A.slots.size), .int 0, .ref b, .ref a])) := c1.trans (by
    refine XS.aloadN X0.here hexec rfl (hb hbytes d0) rfl rfl ?_
    refine XS.aloadN X0.here hexec rfl (hb hbytes d1) rfl rfl ?_
    refine iconstV X0.here hexec rfl 0 (hb hbytes d2) (by decide) ?_
    refine XS.aloadN X0.here hexec rfl (hb hbytes d3) rfl rfl ?_
    refine X0.alen hexec (hA.1.mv X0.warmed.alike hh0) rfl rfl (hb hbytes d4) ?_
    refine XS.aconstNull X0.here hexec rfl (hb hbytes d5) ?_
    exact Steps.refl _)
  obtain ⟨v3, T3, X3, E3, g3⟩ := X0.callN hexec (New4.law l a D fV fC b A z 0 A.slots.size) rfl hown (wks W (initW "java/lang/String" 27 New4.yN)) (W New4.tab (by simp only [site, List.mem_cons, List.mem_append, true_or, or_true])) (W := 0) (Nat.le_of_ble_eq_true rfl) (Nat.le_of_ble_eq_true rfl) (Nat.le_refl _) (by show 0 + A.slots.size ≤ A.slots.size; omega) (g := (mkF m 6 #[.val (.ref a), .val (.ref b)] [.null, .int (Int32.ofNat A.slots.size), .int (Int32.ofNat 0), .ref b, .ref a])) rfl (by rw [hml]; rfl) c2 (argsL := [.ref b, .int (Int32.ofNat 0), .int (Int32.ofNat A.slots.size), .null]) (rest := []) rfl rfl (by show 2 * 0 + 0 ≤ _; decide) (hb hbytes d6) (⟨rfl, hB.mv X0.warmed.alike hh0, f1.al X0.warmed.alike, f2.al X0.warmed.alike, hA.mv X0.warmed.alike hh0, s1.there X0.warmed.alike hh0, hz, l0, by omega, l2, fun i hi => by rw [Nat.zero_add]; exact hp i hi⟩)
  have e0 := Got.mv _ s₁ s _ _ hh0.symm (Vm.Alike.refl _) rfl E3
  obtain rfl := e0.1
  have c4 : Steps p.tables e below (s₁.setTop (entryFrame m #[.ref a, .ref b] 2)) (T3.setTop (mkF m 9 #[.val (.ref a), .val (.ref b)] [])) := g3
  exact ⟨T3, none, _, _, _, X3, by simp, rfl, by omega, (fun _ => rfl), e0, fun fs hl => c4.trans (X3.returnOut hexec hret (hb hbytes d9) hl)⟩
theorem pays {l : Launch} {R : Room} {p : Program} {e : Env} {below : List Frame} {s : State} {sargs : Array Value} {len W : Nat} (a : Addr) (D : Cell) (fV fC : Field) (b : Addr) (A : Cell) (z : Int32) (htab : tab.before sargs s = true) (hfr : 4 ≤ R.frames) (hlo : W + 65 ≤ R.locals) :
    Back l R p e below s sargs yN len W (fun A₁ a₁ => A₁.cells + 1 ≤ R.cells ∧ A₁.slots + A.slots.size ≤ R.slots ∧ P a D fV fC b A z a₁ A₁.U) (fun A₁ _ v₁ B₁ => E a D fV fC A v₁ A₁.U B₁.U ∧ B₁.locs = A₁.locs ++ [⟨a, fC.slot⟩, ⟨a, fV.slot⟩] ∧ B₁.cells = A₁.cells + 1 ∧ B₁.slots = A₁.slots + A.slots.size) :=
  (law l a D fV fC b A z).pays htab hfr (by omega)
end New1
end StrChars
namespace StrChars.Road
open Jvm Sem ClassFile Op Lib Jvm.Stand Jvm.Free Jvm.Free.XT
open Jvm.Lib.Cold (StaticIs)
abbrev ST : String := "java/lang/String"
/-- every table word that New1's law asks, flat -/
abbrev words : List Jvm.Cond := [.code New1.yN New1.yB 2 none, .initialized ST, .methodLink ST 27 New4.yN, .instanceMethod New4.yN,
  .code New4.yN New4.yB 6 none, .fieldLink ST 38 ST "COMPACT_STRINGS" "Z", .laysFinal ST ST "value" "[B", .fieldLink ST 9 ST "value" "[B", .laysFinal ST ST "coder" "B", .fieldLink ST 15 ST "coder" "B",
  .methodLink ST 1 Lib.objectInit, .instanceMethod Lib.objectInit, .code Lib.objectInit ⟨#[0xb1]⟩ 1 none, .methodLink ST 177 Cmp3.yN, .static Cmp3.yN, .methodLink ST 47 CodL.yN, .static CodL.yN,
  .code Cmp3.yN Cmp3.yB 6 (some (.array .byte)), .initialized U16, .arrayClass .byte, .methodLink U16 115 Cmp5.yN, .static Cmp5.yN, .code Cmp5.yN Cmp5.yB 7 (some .int), .code CodL.yN CodL.yB 2 (some .byte)]
theorem tab_of {a : Array Value} {s : State} (h : ∀ w ∈ words, w.before a s = true) : New1.tab.before a s = true := by
  have h5 : Cmp5.tab.before a s = true := unparts (wk h (.code Cmp5.yN Cmp5.yB 7 (some .int))) (wks h (.initialized Cmp5.yN.cls :: Cmp5.site))
  have hc : CodL.tab.before a s = true := unparts (wk h (.code CodL.yN CodL.yB 2 (some .byte))) (wks h (.initialized CodL.yN.cls :: CodL.site))
  have q5 : ∀ w ∈ Cmp5.tab :: words, w.before a s = true := fun w hw => (List.mem_cons.mp hw).elim (fun e => e ▸ h5) (h w)
  have h3 : Cmp3.tab.before a s = true := unparts (wk q5 (.code Cmp3.yN Cmp3.yB 6 (some (.array .byte)))) (wks q5 (.initialized Cmp3.yN.cls :: Cmp3.site))
  have q3 : ∀ w ∈ Cmp3.tab :: CodL.tab :: words, w.before a s = true := fun w hw => (List.mem_cons.mp hw).elim (fun e => e ▸ h3) fun hw => (List.mem_cons.mp hw).elim (fun e => e ▸ hc) (h w)
  have h4 : New4.tab.before a s = true := unparts (wk q3 (.code New4.yN New4.yB 6 none)) (wks q3 (.initialized New4.yN.cls :: New4.site))
  have q4 : ∀ w ∈ New4.tab :: words, w.before a s = true := fun w hw => (List.mem_cons.mp hw).elim (fun e => e ▸ h4) (h w)
  exact unparts (wk q4 (.code New1.yN New1.yB 2 none)) (wks q4 (.initialized New1.yN.cls :: New1.site))
/-- the words ride from the start Z to the walk's own state -/
theorem moved {Z s : State} {a0 args : Array Value} (hZ : Z.Warmed39 s.vm) (hw : ∀ d ∈ words, d.before a0 Z = true) : ∀ d ∈ words, d.before args s = true := fun d hd => by
  have q := hw d hd
  have t : ∀ d ∈ words, d = .arrayClass .byte ∨ (d.onTables && d.keepsFace) = true := by decide +kernel
  rcases t d hd with rfl | t
  · exact RoadKit.mvA hZ q
  · exact RoadKit.mv hZ q t
/-- WHAT COMES BACK, over the tables of the start Z: h the heap at the call, h' behind it -/
def Q (Z : State) (x : Addr) (A : Cell) (h : Heap) (v : Option Value) (h' : Heap) (L : List Loc) : Prop := v = none ∧ (∀ y ∈ L, y.base = x) ∧ RoadKit.Keep h h' [x] ∧ h'.size = h.size + 1 ∧ RoadKit.Exa Z h' x ST ∧ RoadKit.Fld Z h' x ST "value" "[B" (.ref h.size) ∧ RoadKit.Fld Z h' x ST "coder" "B" (.int 0) ∧
  (∃ V : Cell, RoadKit.Arr Z h' h.size V .byte ∧ V.vm = .none ∧ Z.vm.findClass "[B" = some V.cls ∧ V.slots.size = A.slots.size ∧ ∀ j, j < A.slots.size → V.slots[j]? = some (.int (lo8 (cv A j)))) ∧
  ∀ (O n d : String) (w : Value), RoadKit.Fld Z h x O n d w → RoadKit.slotOf Z O n d ≠ RoadKit.slotOf Z ST "value" "[B" → RoadKit.slotOf Z O n d ≠ RoadKit.slotOf Z ST "coder" "B" → RoadKit.Fld Z h' x O n d w
/-- **new String(chars) AT A CALL, IN THE ROAD'S FORM**: for specialBack behind newO: x the fresh String, b the char[] with the cell A -/
theorem back {p : Program} {l : Launch} {e : Env} {R : Room} {s : State} {args : Array Value} {below : List Frame} {len W : Nat} {Z : State} {a0 : Array Value} {h : Heap} (hZ : Z.Warmed39 s.vm) (hw : ∀ d ∈ words, d.before a0 Z = true) {kI : Nat} (wi : (Jvm.Cond.instantiable ST kI).before a0 Z = true)
    {x b : Addr} {A : Cell} {z : Int32} {v0 c0 : Value} (E : RoadKit.Exa Z h x ST) (V : RoadKit.Fld Z h x ST "value" "[B" v0) (C : RoadKit.Fld Z h x ST "coder" "B" c0) (K : RoadKit.Arr Z h b A .char) (hty : Typed .char A) (S : RoadKit.Sta Z h ST "COMPACT_STRINGS" "Z" (.int z)) (hz : ¬ z = 0)
    (l0 : 0 < A.slots.size) (l2 : A.slots.size ≤ 536870912) (hp : ∀ i, i < A.slots.size → ¬ 255 < cv A i) (hfr : 4 ≤ R.frames) (hlo : W + 65 ≤ R.locals) :
    Back l R p e below s args New1.yN len W (fun P a => a = #[.ref x, .ref b] ∧ P.U.heap = h ∧ P.cells + 1 ≤ R.cells ∧ P.slots + A.slots.size ≤ R.slots)
      (fun P _ v B => ∃ L, Q Z x A h v B.U.heap L ∧ B.locs = P.locs ++ L ∧ B.cells = P.cells + 1 ∧ B.slots = P.slots + A.slots.size) := by
  intro m meth c P g ig mk a X hg hsize hdg hW hn hp'
  obtain ⟨rfl, rfl, r1, r2⟩ := hp'
  have al : Z.vm.Alike P.U.vm := hZ.alike.trans X.warmed.alike
  obtain ⟨D, cfV, kV, iV, fV, hD, gV, stV, knV, obV, asV, slV⟩ := id V
  obtain ⟨D', cfC, kC, iC, fC, hD', gC, stC, -, -, asC, slC⟩ := id C
  cases hD.symm.trans hD'
  obtain ⟨D2, kD, e1, e2, e3, e4, e5⟩ := id E
  cases hD.symm.trans e1
  obtain ⟨c2, k2, i1, i2, i3, -⟩ := Cond.instantiable_spec wi
  cases e2.symm.trans i1
  cases e3.symm.trans i2
  obtain ⟨kU, u1, u2⟩ := al.2.2 _ _ e3
  have hB : Blank ST x D P.U := ⟨hD, ⟨knV, fun q hq => by rw [hq] at obV; cases obV⟩, by rw [al.findClass]; exact e2, kU, u1, by rw [u2]; exact i3, by rw [u2]; exact e5 i3⟩
  have F1 : Found ST "value" "[B" fV P.U := ⟨SBG.found_only al ⟨cfV, kV, iV, gV⟩, stV⟩
  have F2 : Found ST "coder" "B" fC P.U := ⟨SBG.found_only al ⟨cfC, kC, iC, gC⟩, stC⟩
  have hA : Ch b A P.U := ⟨⟨K.1, State.isArrayOf_alike al K.2.1, K.2.2, by omega⟩, hty⟩
  have hS : StaticIs P.U ST "COMPACT_STRINGS" "Z" (.int z) := by
    obtain ⟨cfS, iS, kS, fS, st, cS, t1, t2, t3, t4, t5, t6, t7⟩ := S
    exact StaticIs.there (s := { Z with heap := P.U.heap }) ⟨cfS, iS, kS, fS, st, cS, t1, t2, t3, t4, t5, (fun q => by rw [q] at t6; cases t6), t7⟩ al rfl
  obtain ⟨v, B, X', ⟨⟨hv, E', V', q1, q2, q3, q4, q5, q6, q7, q8, q9, q10, q11⟩, hl, hc, hs⟩, st⟩ := New1.pays x D fV fC b A z (tab_of (moved hZ hw)) hfr hlo m meth c P g ig mk _ X hg hsize hdg hW hn ⟨r1, r2, rfl, hB, F1, F2, hA, hS, hz, l0, l2, hp⟩
  have al' : Z.vm.Alike B.U.vm := hZ.alike.trans X'.warmed.alike
  have hsz : E'.slots.size = D.slots.size := by
    obtain ⟨-, -, -, kB, w1, w2, w3⟩ := q1
    obtain ⟨kB', y1, y2⟩ := al'.2.2 _ _ e3
    rw [q2.2.1] at w1
    cases w1.symm.trans y1
    rw [w3, e5 i3, y2]
  refine ⟨v, B, X', ⟨_, ⟨hv, ?_, ⟨by omega, fun y cy hy hn' => q10 y cy (by simpa using hn') hy, fun y cy hy => ?_⟩, q11, ⟨E', _, q1.1, by rw [q2.2.1]; exact e2, by rw [q2.2.1]; exact e3, by rw [q2.1]; exact obV, fun _ => by rw [hsz]; exact e5 i3⟩,
    ⟨E', cfV, kV, iV, fV, q1.1, gV, stV, by rw [q2.1]; exact knV, by rw [q2.1]; exact obV, by rw [q2.2.1]; exact asV, q3⟩, ⟨E', cfC, kC, iC, fC, q1.1, gC, stC, by rw [q2.1]; exact knV, by rw [q2.1]; exact obV, by rw [q2.2.1]; exact asC, q4⟩,
    ⟨V', ⟨q5.1, State.isArrayOf_alike al'.symm q5.2.1, q5.2.2.1⟩, q6, by rw [← al'.findClass]; exact q7, q8, fun j hj => by have := q9 j hj; rwa [Nat.zero_add] at this⟩, fun O n d w F n1 n2 => ?_⟩, hl, hc, hs⟩, st⟩
  · intro y hy
    simp only [List.mem_cons, List.not_mem_nil, or_false] at hy
    rcases hy with rfl | rfl <;> rfl
  · by_cases q : y = x
    · subst q
      cases hD.symm.trans hy
      exact ⟨E', q1.1, q2.2.1, q2.1, hsz⟩
    · exact ⟨cy, q10 y cy q hy, rfl, rfl, rfl⟩
  · obtain ⟨D3, cf, k, i, f, g1, g2, g3, g4, g5, g6, g7⟩ := F
    cases hD.symm.trans g1
    simp only [RoadKit.slotOf, g2, gV, gC, Option.map_some, Option.getD_some] at n1 n2
    exact ⟨E', cf, k, i, f, q1.1, g2, g3, by rw [q2.1]; exact g4, by rw [q2.1]; exact g5, by rw [q2.2.1]; exact g6, by rw [q2.2.2 f.slot (by simp [n1, n2])]; exact g7⟩
end StrChars.Road
namespace StrChars.Road
open Jvm Sem ClassFile Op Lib Jvm.Stand Jvm.Free Jvm.Free.XT
/-- WHAT COMES BACK, the byte[] as a list of values -/
def QA (Z : State) (x : Addr) (zn : Int32) (cs : List Int32) (h : Heap) (v : Option Value) (h' : Heap) (L : List Loc) : Prop := v = none ∧ (∀ y ∈ L, y.base = x) ∧ RoadKit.Keep h h' [x] ∧ h'.size = h.size + 1 ∧ RoadKit.Exa Z h' x ST ∧ RoadKit.Fld Z h' x ST "value" "[B" (.ref h.size) ∧ RoadKit.Fld Z h' x ST "coder" "B" (.int 0) ∧
  (∃ kb, Z.vm.findClass "[B" = some kb ∧ RoadKit.Arv Z h' h.size kb .byte zn (cs.map fun c => .int (lo8 c)) (.int 0)) ∧
  ∀ (O n d : String) (w : Value), RoadKit.Fld Z h x O n d w → RoadKit.slotOf Z O n d ≠ RoadKit.slotOf Z ST "value" "[B" → RoadKit.slotOf Z O n d ≠ RoadKit.slotOf Z ST "coder" "B" → RoadKit.Fld Z h' x O n d w
/-- **new String(chars) AT A CALL, THE ARRAYS AS LISTS**: the char[] at b holds cs, not empty, no char above 255 -/
theorem backArv {p : Program} {l : Launch} {e : Env} {R : Room} {s : State} {args : Array Value} {below : List Frame} {len W : Nat} {Z : State} {a0 : Array Value} {h : Heap} (hZ : Z.Warmed39 s.vm) (hw : ∀ d ∈ words, d.before a0 Z = true) {kI : Nat} (wi : (Jvm.Cond.instantiable ST kI).before a0 Z = true)
    {x b : Addr} {k : ClassId} {zn z : Int32} {cs : List Int32} {dv v0 c0 : Value} (E : RoadKit.Exa Z h x ST) (V : RoadKit.Fld Z h x ST "value" "[B" v0) (C : RoadKit.Fld Z h x ST "coder" "B" c0) (K : RoadKit.Arv Z h b k .char zn (cs.map Value.int) dv) (S : RoadKit.Sta Z h ST "COMPACT_STRINGS" "Z" (.int z)) (hz : ¬ z = 0)
    (hlen : zn.toNatClampNeg = cs.length) (h0 : 0 < cs.length) (hbig : cs.length ≤ 536870912) (hall : ∀ c ∈ cs, ¬ 255 < c) (hfr : 4 ≤ R.frames) (hlo : W + 65 ≤ R.locals) :
    Back l R p e below s args New1.yN len W (fun P a => a = #[.ref x, .ref b] ∧ P.U.heap = h ∧ P.cells + 1 ≤ R.cells ∧ P.slots + cs.length ≤ R.slots)
      (fun P _ v B => ∃ L, QA Z x zn cs h v B.U.heap L ∧ B.locs = P.locs ++ L ∧ B.cells = P.cells + 1 ∧ B.slots = P.slots + cs.length) := by
  obtain ⟨A, K1, K2, K3, K4, K5, K6⟩ := K
  have e : A.slots.size = cs.length := K3.trans hlen
  have hat : ∀ (i : Nat) (hi : i < cs.length), A.slots[i]? = some (.int cs[i]) := fun i hi => by rw [K5 i (by omega)]; simp [List.getD_eq_getElem?_getD, hi]
  have hcv : ∀ (i : Nat) (hi : i < cs.length), cv A i = cs[i] := fun i hi => by unfold cv; rw [hat i hi]
  have hty : Typed .char A := fun i v hv => by
    have hi : i < A.slots.size := (Array.getElem?_eq_some_iff.mp hv).1
    have q := K5 i hi
    rw [hv] at q
    rw [Option.some.inj q]
    exact K6 i hi
  refine Back.mono (back hZ hw wi E V C K1 hty S hz (by omega) (by omega) (fun i hi => by rw [hcv i (by omega)]; exact hall _ (List.getElem_mem _)) hfr hlo) (fun P a hp => ⟨hp.1, hp.2.1, hp.2.2.1, by rw [e]; exact hp.2.2.2⟩) (fun P a v B hp hq => ?_)
  obtain ⟨L, ⟨q1, q2, q3, q4, q5, q6, q7, ⟨V', v1, v2, v3, v4, v5⟩, q9⟩, hl, hc, hs⟩ := hq
  refine ⟨L, ⟨q1, q2, q3, q4, q5, q6, q7, ⟨V'.cls, v3, V', v1, rfl, by rw [v4, e, hlen], K4, fun i hi => ?_, fun i hi => ?_⟩, q9⟩, hl, hc, by rw [hs, e]⟩
  · have hi' : i < cs.length := by omega
    rw [v5 i (by omega), hcv i hi']; simp [List.getD_eq_getElem?_getD, hi']
  · have hi' : i < cs.length := by omega
    simp only [List.getD_eq_getElem?_getD, List.getElem?_map, List.getElem?_eq_getElem hi', Option.map_some, Option.getD_some]
    exact fits_lo8 _
end StrChars.Road
namespace StrChars.Road
open Jvm Sem ClassFile Op Lib Jvm.Stand Jvm.Free Jvm.Free.XT
/-- WHAT COMES BACK, in the writer's own shape -/
def QV (Z : State) (x : Addr) (N : Int32) (bs : List Int32) (h : Heap) (n0 : Nat) (v : Option Value) (h' : Heap) (L : List Loc) : Prop := v = none ∧ RoadKit.Fr n0 L ∧ RoadKit.Keep h h' [x] ∧ RoadKit.Exa Z h' x ST ∧ RoadKit.Fld Z h' x ST "coder" "B" (.int 0) ∧
  ∃ (t : Addr) (kb : ClassId), n0 ≤ t ∧ h.size ≤ t ∧ ¬ t = x ∧ RoadKit.Fld Z h' x ST "value" "[B" (.ref t) ∧ RoadKit.Arv Z h' t kb .byte N (bs.map Value.int) (.int 0)
/-- **new String(chars) AT A CALL, FOR THE WRITER**: a char[] of n known ints, each 0 to 255 -/
theorem backV {p : Program} {l : Launch} {e : Env} {R : Room} {s : State} {args : Array Value} {below : List Frame} {len W : Nat} {Z : State} {a0 : Array Value} {h : Heap} (hZ : Z.Warmed39 s.vm) (hw : ∀ d ∈ words, d.before a0 Z = true) {kI : Nat} (wi : (Jvm.Cond.instantiable ST kI).before a0 Z = true)
    {x b : Addr} {kC : ClassId} {cs bs : List Int32} {d v0 c0 : Value} {z N : Int32} {n n0 : Nat} (hx0 : n0 ≤ x) (hh0 : n0 ≤ h.size) (E : RoadKit.Exa Z h x ST) (V : RoadKit.Fld Z h x ST "value" "[B" v0) (C : RoadKit.Fld Z h x ST "coder" "B" c0) (K : RoadKit.Arv Z h b kC .char N (cs.map Value.int) d) (S : RoadKit.Sta Z h ST "COMPACT_STRINGS" "Z" (.int z)) (hz : ¬ z = 0)
    (hn : cs.length = n) (hN : N = Int32.ofNat n) (l0 : 0 < n) (l2 : n ≤ 4000) (hp : ∀ c ∈ cs, ¬ c < 0 ∧ ¬ (255 : Int32) < c) (hb : bs = cs.map (fun c => c.toInt8.toInt32)) (hfr : 4 ≤ R.frames) (hlo : W + 65 ≤ R.locals) :
    Back l R p e below s args (⟨"java/lang/String", "<init>", "([C)V"⟩ : MethodName) len W (fun P a => a = #[.ref x, .ref b] ∧ P.U.heap = h ∧ P.cells + 1 ≤ R.cells ∧ P.slots + n ≤ R.slots)
      (fun P _ v B => ∃ L, QV Z x N bs h n0 v B.U.heap L ∧ B.locs = P.locs ++ L ∧ B.cells = P.cells + 1 ∧ B.slots = P.slots + n) := by
  subst hn hN hb
  refine Back.mono (backArv hZ hw wi E V C K S hz (n32 (by omega)) l0 (by omega) (fun c hc => (hp c hc).2) hfr hlo) (fun P a hp => hp) (fun P a v B hp hq => ?_)
  obtain ⟨L, ⟨q1, q2, q3, q4, q5, q6, q7, ⟨kb, v1, v2⟩, q9⟩, hl, hc, hs⟩ := hq
  exact ⟨L, ⟨q1, fun y hy => by rw [q2 y hy]; exact hx0, q3, q5, q7, h.size, kb, hh0, Nat.le_refl _, Nat.ne_of_gt E.lt, q6, by rw [List.map_map]; exact v2⟩, hl, hc, hs⟩
end StrChars.Road
end Jvm.Pilot.@@N@@
namespace Jvm.Pilot.@@N@@
open Jvm Jvm.ClassFile Sem Op Lib Jvm.Free Jvm.Stand Jvm.LawKit Jvm.RoadKit Bundle Jvm.Pilot.@@N@@.Jvm.D
def own_R (s : State) (below : List Frame) (Q : Option Value → Heap → List Loc → Prop) (rc rs : Nat) (t : State) (o : Outcome) : Prop := t.status = .running ∧ Ended t below o ∧ ∃ v L, o = .returned v ∧ Q v t.heap L ∧ FrameEnd s o t L rc rs
def own_RW (s : State) (below : List Frame) (Q : Option Value → Heap → List Loc → Prop) (rc rs : Nat) (t : State) (o : Outcome) : Prop := t.status = .running ∧ Ended t below o ∧ ∃ v L, o = .returned v ∧ Q v t.heap L ∧ ReturnedEndW s o t L rc rs
def own_Go (p : Program) (e : Env) (below : List Frame) (Rr : State → Outcome → Prop) (S : State) : Prop := ∃ t o, Steps p.tables e below S t ∧ Rr t o
section OwnGo
variable {p : Program} {l : Launch} {e : Env} {R : Room} {s : State} {m : MethodId} {args : Array Value} {below : List Frame} {meth : Method} {c : Code} {T : State} {locs : List Loc} {cells slots : Nat} {Q : Option Value → Heap → List Loc → Prop} {rc rs : Nat} {S S' : State} {Rr : State → Outcome → Prop}
theorem own_bk (st : ∀ t, Steps p.tables e below S' t → Steps p.tables e below S t) (k : own_Go p e below Rr S') : own_Go p e below Rr S := by
  obtain ⟨t, o, h1, h2⟩ := k; exact ⟨t, o, st t h1, h2⟩
theorem own_seg (f : own_Go p e below Rr S' → own_Go p e below Rr S) (k : own_Go p e below Rr S') : own_Go p e below Rr S := f k
theorem own_tr (st : Steps p.tables e below S S') (k : own_Go p e below Rr S') : own_Go p e below Rr S := own_bk (fun t k => st.trans k) k
theorem own_retN (X : Stand p l e R s m args below meth c T locs cells slots) (hx : p.tables.exec = Jvm.exec) (hlk : meth.locks = false) {pc : Nat} {Ls : Array Slot} {z w : Int32} {t : FieldType} {rest : List Value} (hret : meth.sig.returnType = some t) (ht : t = .boolean ∨ t = .byte ∨ t = .char ∨ t = .short) (hd : decode c.code pc = .ok (.ireturn, 1)) (hz : nar t z = w)
    (hQ : Q (some (.int w)) T.heap locs) (hc : cells ≤ rc) (hs : slots ≤ rs) : own_Go p e below (own_R s below Q rc rs) (T.setTop (mkF m pc Ls (.int z :: rest))) := by
  subst hz
  obtain ⟨fs, hr, hrun, hended, hW, hsame⟩ := X.leave (v := some (.int (nar t z))) (fun h => by rw [hret] at h; cases h) hlk
  exact ⟨_, _, retN X hx hret ht hd hr, hrun, hended, _, _, rfl, hQ, ⟨_, rfl⟩, hW, hsame.mono hc hs⟩
theorem own_retNW {vm1 : Vm} {n1 : Nat} (hS : s.Since vm1 n1) (X : Stand p l e R (s.setVm vm1) m args below meth c T locs cells slots) (hn1 : n1 ≤ T.heap.size) (hx : p.tables.exec = Jvm.exec) (hlk : meth.locks = false) {pc : Nat} {Ls : Array Slot} {z w : Int32} {t : FieldType} {rest : List Value} (hret : meth.sig.returnType = some t) (ht : t = .boolean ∨ t = .byte ∨ t = .char ∨ t = .short) (hd : decode c.code pc = .ok (.ireturn, 1)) (hz : nar t z = w)
    (hQ : Q (some (.int w)) T.heap locs) (hc : cells ≤ rc) (hs : slots ≤ rs) : own_Go p e below (own_RW s below Q rc rs) (T.setTop (mkF m pc Ls (.int z :: rest))) := by
  subst hz
  obtain ⟨fs, hr, hrun, hended, hE⟩ := X.leaveW hS hn1 (v := some (.int (nar t z))) (fun h => by rw [hret] at h; cases h) hlk
  exact ⟨_, _, retN X hx hret ht hd hr, hrun, hended, _, _, rfl, hQ, hE.1, hE.2.1, hE.2.2.1, hE.2.2.2.mono hc hs⟩
theorem own_retI (X : Stand p l e R s m args below meth c T locs cells slots) (hx : p.tables.exec = Jvm.exec) (hlk : meth.locks = false) {pc : Nat} {Ls : Array Slot} {z : Int32} {rest : List Value} (hret : meth.sig.returnType = some .int) (hd : decode c.code pc = .ok (.ireturn, 1))
    (hQ : Q (some (.int z)) T.heap locs) (hc : cells ≤ rc) (hs : slots ≤ rs) : own_Go p e below (own_R s below Q rc rs) (T.setTop (mkF m pc Ls (.int z :: rest))) := by
  obtain ⟨fs, hr, hrun, hended, hW, hsame⟩ := X.leave (v := some (.int z)) (fun h => by rw [hret] at h; cases h) hlk
  exact ⟨_, _, retI X hx hret hd hr, hrun, hended, _, _, rfl, hQ, ⟨_, rfl⟩, hW, hsame.mono hc hs⟩
theorem own_retIW {vm1 : Vm} {n1 : Nat} (hS : s.Since vm1 n1) (X : Stand p l e R (s.setVm vm1) m args below meth c T locs cells slots) (hn1 : n1 ≤ T.heap.size) (hx : p.tables.exec = Jvm.exec) (hlk : meth.locks = false) {pc : Nat} {Ls : Array Slot} {z : Int32} {rest : List Value} (hret : meth.sig.returnType = some .int) (hd : decode c.code pc = .ok (.ireturn, 1))
    (hQ : Q (some (.int z)) T.heap locs) (hc : cells ≤ rc) (hs : slots ≤ rs) : own_Go p e below (own_RW s below Q rc rs) (T.setTop (mkF m pc Ls (.int z :: rest))) := by
  obtain ⟨fs, hr, hrun, hended, hE⟩ := X.leaveW hS hn1 (v := some (.int z)) (fun h => by rw [hret] at h; cases h) hlk
  exact ⟨_, _, retI X hx hret hd hr, hrun, hended, _, _, rfl, hQ, hE.1, hE.2.1, hE.2.2.1, hE.2.2.2.mono hc hs⟩
theorem own_retJ (X : Stand p l e R s m args below meth c T locs cells slots) (hx : p.tables.exec = Jvm.exec) (hlk : meth.locks = false) {pc : Nat} {Ls : Array Slot} {z : Int64} {rest : List Value} (hret : meth.sig.returnType = some .long) (hd : decode c.code pc = .ok (.lreturn, 1))
    (hQ : Q (some (.long z)) T.heap locs) (hc : cells ≤ rc) (hs : slots ≤ rs) : own_Go p e below (own_R s below Q rc rs) (T.setTop (mkF m pc Ls (.long z :: rest))) := by
  obtain ⟨fs, hr, hrun, hended, hW, hsame⟩ := X.leave (v := some (.long z)) (fun h => by rw [hret] at h; cases h) hlk
  exact ⟨_, _, retOut X hx hret rfl (Or.inr (Or.inl ⟨rfl, rfl, z, rfl⟩)) hd hr, hrun, hended, _, _, rfl, hQ, ⟨_, rfl⟩, hW, hsame.mono hc hs⟩
theorem own_retJW {vm1 : Vm} {n1 : Nat} (hS : s.Since vm1 n1) (X : Stand p l e R (s.setVm vm1) m args below meth c T locs cells slots) (hn1 : n1 ≤ T.heap.size) (hx : p.tables.exec = Jvm.exec) (hlk : meth.locks = false) {pc : Nat} {Ls : Array Slot} {z : Int64} {rest : List Value} (hret : meth.sig.returnType = some .long) (hd : decode c.code pc = .ok (.lreturn, 1))
    (hQ : Q (some (.long z)) T.heap locs) (hc : cells ≤ rc) (hs : slots ≤ rs) : own_Go p e below (own_RW s below Q rc rs) (T.setTop (mkF m pc Ls (.long z :: rest))) := by
  obtain ⟨fs, hr, hrun, hended, hE⟩ := X.leaveW hS hn1 (v := some (.long z)) (fun h => by rw [hret] at h; cases h) hlk
  exact ⟨_, _, retOut X hx hret rfl (Or.inr (Or.inl ⟨rfl, rfl, z, rfl⟩)) hd hr, hrun, hended, _, _, rfl, hQ, hE.1, hE.2.1, hE.2.2.1, hE.2.2.2.mono hc hs⟩
theorem own_retA (X : Stand p l e R s m args below meth c T locs cells slots) (hx : p.tables.exec = Jvm.exec) (hlk : meth.locks = false) {pc : Nat} {Ls : Array Slot} {w : Value} {t : FieldType} {rest : List Value} (hret : meth.sig.returnType = some t) (ht : t.isReference = true) (hw : w.isRef = true) (hn : narrow t w = w) (hd : decode c.code pc = .ok (.areturn, 1))
    (hQ : Q (some w) T.heap locs) (hc : cells ≤ rc) (hs : slots ≤ rs) : own_Go p e below (own_R s below Q rc rs) (T.setTop (mkF m pc Ls (w :: rest))) := by
  obtain ⟨fs, hr, hrun, hended, hW, hsame⟩ := X.leave (v := some w) (fun h => by rw [hret] at h; cases h) hlk
  exact ⟨_, _, retOut X hx hret hn (Or.inr (Or.inr (Or.inr (Or.inr ⟨rfl, ht, hw⟩)))) hd hr, hrun, hended, _, _, rfl, hQ, ⟨_, rfl⟩, hW, hsame.mono hc hs⟩
theorem own_retAW {vm1 : Vm} {n1 : Nat} (hS : s.Since vm1 n1) (X : Stand p l e R (s.setVm vm1) m args below meth c T locs cells slots) (hn1 : n1 ≤ T.heap.size) (hx : p.tables.exec = Jvm.exec) (hlk : meth.locks = false) {pc : Nat} {Ls : Array Slot} {w : Value} {t : FieldType} {rest : List Value} (hret : meth.sig.returnType = some t) (ht : t.isReference = true) (hw : w.isRef = true) (hn : narrow t w = w) (hd : decode c.code pc = .ok (.areturn, 1))
    (hQ : Q (some w) T.heap locs) (hc : cells ≤ rc) (hs : slots ≤ rs) : own_Go p e below (own_RW s below Q rc rs) (T.setTop (mkF m pc Ls (w :: rest))) := by
  obtain ⟨fs, hr, hrun, hended, hE⟩ := X.leaveW hS hn1 (v := some w) (fun h => by rw [hret] at h; cases h) hlk
  exact ⟨_, _, retOut X hx hret hn (Or.inr (Or.inr (Or.inr (Or.inr ⟨rfl, ht, hw⟩)))) hd hr, hrun, hended, _, _, rfl, hQ, hE.1, hE.2.1, hE.2.2.1, hE.2.2.2.mono hc hs⟩
theorem own_retV (X : Stand p l e R s m args below meth c T locs cells slots) (hx : p.tables.exec = Jvm.exec) (hlk : meth.locks = false) {pc : Nat} {Ls : Array Slot} (hret : meth.sig.returnType = none) (hd : decode c.code pc = .ok (.return_, 1))
    (hQ : Q none T.heap locs) (hc : cells ≤ rc) (hs : slots ≤ rs) : own_Go p e below (own_R s below Q rc rs) (T.setTop (mkF m pc Ls [])) := by
  obtain ⟨fs, hr, hrun, hended, hW, hsame⟩ := X.leave (v := none) (fun _ => rfl) hlk
  exact ⟨_, _, X.returnOut hx hret hd hr, hrun, hended, _, _, rfl, hQ, ⟨_, rfl⟩, hW, hsame.mono hc hs⟩
theorem own_retVW {vm1 : Vm} {n1 : Nat} (hS : s.Since vm1 n1) (X : Stand p l e R (s.setVm vm1) m args below meth c T locs cells slots) (hn1 : n1 ≤ T.heap.size) (hx : p.tables.exec = Jvm.exec) (hlk : meth.locks = false) {pc : Nat} {Ls : Array Slot} (hret : meth.sig.returnType = none) (hd : decode c.code pc = .ok (.return_, 1))
    (hQ : Q none T.heap locs) (hc : cells ≤ rc) (hs : slots ≤ rs) : own_Go p e below (own_RW s below Q rc rs) (T.setTop (mkF m pc Ls [])) := by
  obtain ⟨fs, hr, hrun, hended, hE⟩ := X.leaveW hS hn1 (v := none) (fun _ => rfl) hlk
  exact ⟨_, _, X.returnOut hx hret hd hr, hrun, hended, _, _, rfl, hQ, hE.1, hE.2.1, hE.2.2.1, hE.2.2.2.mono hc hs⟩
end OwnGo
/-- an enum constant of the start: what its static holds, its class, its ordinal -/
def own_E (Z : State) (h : Heap) (r : Addr) (C n d : String) (k : Int32) : Prop := Sta Z h C n d (.ref r) ∧ Exa Z h r C ∧ Fld Z h r "java/lang/Enum" "ordinal" "I" (.int k)
theorem own_E.ext {Z : State} {h h' : Heap} {r : Addr} {C n d : String} {k : Int32} (G : own_E Z h r C n d k) (E : Ext h h') : own_E Z h' r C n d k := ⟨G.1.ext E, G.2.1.ext E, G.2.2.ext E⟩
theorem own_E.ne {Z : State} {h : Heap} {r r' : Addr} {C n d C' n' d' : String} {k k' : Int32} (G : own_E Z h r C n d k) (G' : own_E Z h r' C' n' d' k') (q : k ≠ k') : r ≠ r' := Fld.ne G.2.2 G'.2.2 (fun e => q (Value.int.inj e))
theorem own_fldInt {args : Array Value} {s : State} {t : Term} {C n d : String} {k : Int32} {a : Addr} (h : (Jvm.Cond.eq (.field t C n d) (.int k)).value args s none s [] = some true) (ev : t.eval args s none [] s = some (.ref a)) : s.fieldOf? a C n d = some (.int k) := by
  obtain ⟨x, y, h1, h2, h3, h4⟩ := cmp_v (Or.inl h)
  have h5 : (Term.int k).eval args s none [] s = some (.int k) := Term.int_eval k
  cases h5.symm.trans h2
  obtain ⟨z, rfl⟩ := h4
  have h6 : z = k := gotT (Cond.eq_ints h1 h5) h
  subst h6
  rw [← fld_at ev]; exact h1
theorem own_eq1 {x y : Int32} (h : x = y) : if_icmp.holds .eq x y = true := (teq h).1
theorem own_c255 (x : Int32) : ¬ (x &&& (255 : Int32)).toUInt32.toUInt16.toUInt32.toInt32 < 0 ∧ ¬ (255 : Int32) < (x &&& (255 : Int32)).toUInt32.toUInt16.toUInt32.toInt32 := by
  rw [i2c_mask]
  have h := c_mask x 255 8 (by decide) (by decide)
  have e0 : (0 : Int32).toInt = 0 := by decide
  have e1 : (255 : Int32).toInt = 255 := by decide
  simp only [Int32.lt_iff_toInt_lt, e0, e1, h]
  have := Int.emod_nonneg x.toInt (show ((2 ^ 8 : Nat) : Int) ≠ 0 by decide)
  have := Int.emod_lt_of_pos x.toInt (show (0 : Int) < ((2 ^ 8 : Nat) : Int) by decide)
  constructor <;> omega
theorem own_nar (x : Int32) : nar .char (x.toUInt32.toUInt16.toUInt32.toInt32) = x.toUInt32.toUInt16.toUInt32.toInt32 := by simp only [nar, UInt32.toUInt32_toInt32, UInt16.toUInt16_toUInt32]
theorem own_n255 (x : Int32) : ¬ nar .char ((x &&& (255 : Int32)).toUInt32.toUInt16.toUInt32.toInt32) < 0 ∧ ¬ (255 : Int32) < nar .char ((x &&& (255 : Int32)).toUInt32.toUInt16.toUInt32.toInt32) := by rw [own_nar]; exact own_c255 x

theorem own_m31 (x : Int32) : ¬ (x &&& (2147483647 : Int32)) < 0 := by
  have h := c_mask x 2147483647 31 (by decide) (by decide)
  have e0 : (0 : Int32).toInt = 0 := by decide
  rw [Int32.lt_iff_toInt_lt, e0, h]
  have := Int.emod_nonneg x.toInt (show ((2 ^ 31 : Nat) : Int) ≠ 0 by decide)
  omega
theorem own_u1 (x : Int32) : ¬ (x.toUInt32 >>> ((1 : Int32) &&& 31).toUInt32).toInt32 < 0 := by
  have h := c_iushr x 1 1 (by decide) (by decide)
  have e0 : (0 : Int32).toInt = 0 := by decide
  rw [Int32.lt_iff_toInt_lt, e0, h]
  have := Int.emod_nonneg x.toInt (show (4294967296 : Int) ≠ 0 by decide)
  omega
theorem d8_0 : decode jdk_30_method_1_code 0 = .ok (.aload_n 0, 1) := by decide +kernel
theorem d8_1 : decode jdk_30_method_1_code 1 = .ok (.invokespecial 1, 3) := by decide +kernel
theorem d8_4 : decode jdk_30_method_1_code 4 = .ok (.return_, 1) := by decide +kernel
theorem ef_rmRec (m : MethodId) (x0 : Addr) : entryFrame m #[(.ref x0)] 1 = mkF m 0 #[.val (.ref x0)] [] := by first | (simp [entryFrame, mkF, argsToLocals, Value.category, maxLocals]; done) | rfl
def Q_rmRec (Z : State) (a : Addr) (h0 : Heap) (n0 : Nat) (v : Option Value) (h : Heap) (L : List Loc) : Prop := v = none ∧ Fr n0 L ∧ h = h0
set_option maxRecDepth 65536 in
set_option maxHeartbeats 40000000 in
theorem rmRec (l : Launch) (Z : State) (a0 : Array Value) (hw : ∀ d ∈ tables_1, d.before a0 Z = true) (ws : List Jvm.Cond) (a : Addr) (h0 : Heap) (n0 : Nat) (Z0 : n0 ≤ h0.size)  :
    MetFree l (⟨"java/lang/Record", "<init>", "()V"⟩ : MethodName) (head1 (Jvm.Cond.code (⟨"java/lang/Record", "<init>", "()V"⟩ : MethodName) jdk_30_method_1_code 1 none :: ws) ({ frames := 1, cells := 0, slots := 0, locals := 12 } : Room)) (fun as_ U_ => as_ = #[(.ref a)] ∧ Z.Warmed39 U_.vm ∧ U_.heap = h0) (fun _ _ _ _ _ => True) (fun _ U_ o_ U2_ => ∃ v_ L_, o_ = .returned v_ ∧ (Q_rmRec Z a h0 n0) v_ U2_.heap L_ ∧ FrameEnd U_ o_ U2_ L_ ({ frames := 1, cells := 0, slots := 0, locals := 12 } : Room).cells ({ frames := 1, cells := 0, slots := 0, locals := 12 } : Room).slots) := by
  refine MetFree.of_bodySF (plainFor_of_name (by first | (simp [plainName, overriddenIn]; done) | decide +kernel : plainName "java/lang/Record" = true)) hisR ?_
  intro p e s m args below meth c s₁ Bd hml0 hP hK
  obtain ⟨rfl, hZ, hh⟩ := hP
  have hx := Bd.exec
  have hby := Bd.bytes
  have hlk := Bd.notSynchronized
  have hml : c.maxLocals = 1 := hml0
  have hown : s.vm.findClass "java/lang/Record" = some m.cls := findClass_of_methodNamed Bd.named
  have hnm := (name_of_methodNamed Bd.named Bd.method).1
  have X0 : Stand p l e ({ frames := 1, cells := 0, slots := 0, locals := 12 } : Room) s m #[(.ref a)] below meth c s₁ [] 0 0 := Stand.of_body Bd
  have e0 : s₁.heap = h0 := by rw [← hh, Bd.state]; rfl
  have N0 := Fr.nil n0
  show own_Go p e below (own_R s below (Q_rmRec Z a h0 n0) ({ frames := 1, cells := 0, slots := 0, locals := 12 } : Room).cells ({ frames := 1, cells := 0, slots := 0, locals := 12 } : Room).slots) (s₁.setTop (entryFrame m #[(.ref a)] 1))
  refine own_bk (S' := (s₁.setTop (mkF m 0 #[rv a] []))) (fun t_ kont => castTop (ef_rmRec m (a)) kont) ?_
  refine own_bk (S' := (s₁.setTop (mkF m 1 #[rv a] [(.ref a)]))) (fun t_ kont => XS.aloadN X0.here hx rfl (hb hby d8_0) rfl rfl kont) ?_
  obtain ⟨T1, X2, e3, st4⟩ := initO X0 hx hZ hown (hw _ (List.mem_of_getElem? (i := 42) rfl)) (hw _ (List.mem_of_getElem? (i := 13) rfl)) (hw _ (List.mem_of_getElem? (i := 14) rfl)) e0 (g := (mkF m 1 #[rv a] [(.ref a)])) rfl (by rw [hml]; rfl) rfl (hb hby d8_1) (by decide) (W := 0) (by show 2 * 0 + _ ≤ _; exact Nat.le_of_eq rfl) (by decide)
  refine own_bk (S' := (T1.setTop (mkF m 4 #[rv a] []))) st4 ?_
  exact own_retV X2 hx hlk Bd.returns (hb hby d8_4) ⟨rfl, N0, e3⟩ (by decide) (by decide)
theorem d9_0 : decode jdk_31_method_11_code 0 = .ok (.aload_n 0, 1) := by decide +kernel
theorem d9_1 : decode jdk_31_method_11_code 1 = .ok (.ifnonnull 12, 3) := by decide +kernel
theorem d9_4 : decode jdk_31_method_11_code 4 = .ok (.new 84, 3) := by decide +kernel
theorem d9_7 : decode jdk_31_method_11_code 7 = .ok (.dup, 1) := by decide +kernel
theorem d9_8 : decode jdk_31_method_11_code 8 = .ok (.aload_n 1, 1) := by decide +kernel
theorem d9_9 : decode jdk_31_method_11_code 9 = .ok (.invokespecial 87, 3) := by decide +kernel
theorem d9_12 : decode jdk_31_method_11_code 12 = .ok (.athrow, 1) := by decide +kernel
theorem d9_13 : decode jdk_31_method_11_code 13 = .ok (.aload_n 0, 1) := by decide +kernel
theorem d9_14 : decode jdk_31_method_11_code 14 = .ok (.areturn, 1) := by decide +kernel
theorem ef_rmNN (m : MethodId) (x0 : Addr) (x1 : Addr) : entryFrame m #[(.ref x0), (.ref x1)] 2 = mkF m 0 #[.val (.ref x0), .val (.ref x1)] [] := by first | (simp [entryFrame, mkF, argsToLocals, Value.category, maxLocals]; done) | rfl
def Q_rmNN (Z : State) (x y : Addr) (h0 : Heap) (n0 : Nat) (v : Option Value) (h : Heap) (L : List Loc) : Prop := v = some (.ref x) ∧ Fr n0 L ∧ h = h0
set_option maxRecDepth 65536 in
set_option maxHeartbeats 40000000 in
theorem rmNN (l : Launch) (Z : State) (a0 : Array Value) (hw : ∀ d ∈ tables_1, d.before a0 Z = true) (ws : List Jvm.Cond) (x y : Addr) (h0 : Heap) (n0 : Nat) (Z0 : n0 ≤ h0.size)  :
    MetFree l (⟨"java/util/Objects", "requireNonNull", "(Ljava/lang/Object;Ljava/lang/String;)Ljava/lang/Object;"⟩ : MethodName) (head1 (Jvm.Cond.code (⟨"java/util/Objects", "requireNonNull", "(Ljava/lang/Object;Ljava/lang/String;)Ljava/lang/Object;"⟩ : MethodName) jdk_31_method_11_code 2 (some (.object "java/lang/Object")) :: ws) ({ frames := 0, cells := 0, slots := 0, locals := 0 } : Room)) (fun as_ U_ => as_ = #[(.ref x), (.ref y)] ∧ Z.Warmed39 U_.vm ∧ U_.heap = h0) (fun _ _ _ _ _ => True) (fun _ U_ o_ U2_ => ∃ v_ L_, o_ = .returned v_ ∧ (Q_rmNN Z x y h0 n0) v_ U2_.heap L_ ∧ FrameEnd U_ o_ U2_ L_ ({ frames := 0, cells := 0, slots := 0, locals := 0 } : Room).cells ({ frames := 0, cells := 0, slots := 0, locals := 0 } : Room).slots) := by
  refine MetFree.of_bodySF (plainFor_of_name (by first | (simp [plainName, overriddenIn]; done) | decide +kernel : plainName "java/util/Objects" = true)) hisR ?_
  intro p e s m args below meth c s₁ Bd hml0 hP hK
  obtain ⟨rfl, hZ, hh⟩ := hP
  have hx := Bd.exec
  have hby := Bd.bytes
  have hlk := Bd.notSynchronized
  have hml : c.maxLocals = 2 := hml0
  have hown : s.vm.findClass "java/util/Objects" = some m.cls := findClass_of_methodNamed Bd.named
  have hnm := (name_of_methodNamed Bd.named Bd.method).1
  have X0 : Stand p l e ({ frames := 0, cells := 0, slots := 0, locals := 0 } : Room) s m #[(.ref x), (.ref y)] below meth c s₁ [] 0 0 := Stand.of_body Bd
  have e0 : s₁.heap = h0 := by rw [← hh, Bd.state]; rfl
  have N0 := Fr.nil n0
  show own_Go p e below (own_R s below (Q_rmNN Z x y h0 n0) ({ frames := 0, cells := 0, slots := 0, locals := 0 } : Room).cells ({ frames := 0, cells := 0, slots := 0, locals := 0 } : Room).slots) (s₁.setTop (entryFrame m #[(.ref x), (.ref y)] 2))
  refine own_bk (S' := (s₁.setTop (mkF m 0 #[rv x, rv y] []))) (fun t_ kont => castTop (ef_rmNN m (x) (y)) kont) ?_
  refine own_bk (S' := (s₁.setTop (mkF m 1 #[rv x, rv y] [(.ref x)]))) (fun t_ kont => XS.aloadN X0.here hx rfl (hb hby d9_0) rfl rfl kont) ?_
  refine own_bk (S' := (s₁.setTop (mkF m 13 #[rv x, rv y] []))) (fun t_ kont => XS.ifnonnullYes X0.here hx rfl (pc0 := 1) (pc' := 13) rfl (hb hby d9_1) rfl (by decide) (by decide) kont) ?_
  refine own_bk (S' := (s₁.setTop (mkF m 14 #[rv x, rv y] [(.ref x)]))) (fun t_ kont => XS.aloadN X0.here hx rfl (hb hby d9_13) rfl rfl kont) ?_
  exact own_retA X0 hx hlk Bd.returns rfl rfl rfl (hb hby d9_14) ⟨rfl, N0, e0⟩ (by decide) (by decide)
theorem d10_0 : decode jdk_96_method_17_code 0 = .ok (.getstatic 9, 3) := by decide +kernel
theorem d10_3 : decode jdk_96_method_17_code 3 = .ok (.areturn, 1) := by decide +kernel
theorem ef_rmSo (m : MethodId)  : entryFrame m #[] 0 = mkF m 0 #[] [] := by first | (simp [entryFrame, mkF, argsToLocals, Value.category, maxLocals]; done) | rfl
def Q_rmSo (Z : State) (x : Addr) (h0 : Heap) (n0 : Nat) (v : Option Value) (h : Heap) (L : List Loc) : Prop := v = some (.ref x) ∧ Fr n0 L ∧ h = h0
set_option maxRecDepth 65536 in
set_option maxHeartbeats 40000000 in
theorem rmSo (l : Launch) (Z : State) (a0 : Array Value) (hw : ∀ d ∈ tables_1, d.before a0 Z = true) (ws : List Jvm.Cond) (x : Addr) (h0 : Heap) (n0 : Nat) (Z0 : n0 ≤ h0.size) (S : Sta Z h0 "java/util/ImmutableCollections" "EMPTY_SET" "Ljava/util/ImmutableCollections$SetN;" (.ref x)) :
    MetFree l (⟨"java/util/Set", "of", "()Ljava/util/Set;"⟩ : MethodName) (head1 (Jvm.Cond.code (⟨"java/util/Set", "of", "()Ljava/util/Set;"⟩ : MethodName) jdk_96_method_17_code 0 (some (.object "java/util/Set")) :: ws) ({ frames := 0, cells := 0, slots := 0, locals := 0 } : Room)) (fun as_ U_ => as_ = #[] ∧ Z.Warmed39 U_.vm ∧ U_.heap = h0) (fun _ _ _ _ _ => True) (fun _ U_ o_ U2_ => ∃ v_ L_, o_ = .returned v_ ∧ (Q_rmSo Z x h0 n0) v_ U2_.heap L_ ∧ FrameEnd U_ o_ U2_ L_ ({ frames := 0, cells := 0, slots := 0, locals := 0 } : Room).cells ({ frames := 0, cells := 0, slots := 0, locals := 0 } : Room).slots) := by
  refine MetFree.of_bodySF (plainFor_of_name (by first | (simp [plainName, overriddenIn]; done) | decide +kernel : plainName "java/util/Set" = true)) hisR ?_
  intro p e s m args below meth c s₁ Bd hml0 hP hK
  obtain ⟨rfl, hZ, hh⟩ := hP
  have hx := Bd.exec
  have hby := Bd.bytes
  have hlk := Bd.notSynchronized
  have hml : c.maxLocals = 0 := hml0
  have hown : s.vm.findClass "java/util/Set" = some m.cls := findClass_of_methodNamed Bd.named
  have hnm := (name_of_methodNamed Bd.named Bd.method).1
  have X0 : Stand p l e ({ frames := 0, cells := 0, slots := 0, locals := 0 } : Room) s m #[] below meth c s₁ [] 0 0 := Stand.of_body Bd
  have e0 : s₁.heap = h0 := by rw [← hh, Bd.state]; rfl
  have N0 := Fr.nil n0
  show own_Go p e below (own_R s below (Q_rmSo Z x h0 n0) ({ frames := 0, cells := 0, slots := 0, locals := 0 } : Room).cells ({ frames := 0, cells := 0, slots := 0, locals := 0 } : Room).slots) (s₁.setTop (entryFrame m #[] 0))
  refine own_bk (S' := (s₁.setTop (mkF m 0 #[] []))) (fun t_ kont => castTop (ef_rmSo m ) kont) ?_
  obtain ⟨T1, X2, e3, st4⟩ := getS2 X0 hx hZ hown (host := "") (Or.inl (hw _ (List.mem_of_getElem? (i := 63) rfl))) Via.refl e0 S (g := (mkF m 0 #[] [])) rfl (hb hby d10_0)
  refine own_bk (S' := (T1.setTop (mkF m 3 #[] [(.ref x)]))) st4 ?_
  exact own_retA X2 hx hlk Bd.returns rfl rfl rfl (hb hby d10_3) ⟨rfl, N0, e3⟩ (by decide) (by decide)
theorem d11_0 : decode jdk_72_method_26_code 0 = .ok (.getstatic 81, 3) := by decide +kernel
theorem d11_3 : decode jdk_72_method_26_code 3 = .ok (.areturn, 1) := by decide +kernel
theorem ef_rmMo (m : MethodId)  : entryFrame m #[] 0 = mkF m 0 #[] [] := by first | (simp [entryFrame, mkF, argsToLocals, Value.category, maxLocals]; done) | rfl
def Q_rmMo (Z : State) (x : Addr) (h0 : Heap) (n0 : Nat) (v : Option Value) (h : Heap) (L : List Loc) : Prop := v = some (.ref x) ∧ Fr n0 L ∧ h = h0
set_option maxRecDepth 65536 in
set_option maxHeartbeats 40000000 in
theorem rmMo (l : Launch) (Z : State) (a0 : Array Value) (hw : ∀ d ∈ tables_1, d.before a0 Z = true) (ws : List Jvm.Cond) (x : Addr) (h0 : Heap) (n0 : Nat) (Z0 : n0 ≤ h0.size) (S : Sta Z h0 "java/util/ImmutableCollections" "EMPTY_MAP" "Ljava/util/ImmutableCollections$MapN;" (.ref x)) :
    MetFree l (⟨"java/util/Map", "of", "()Ljava/util/Map;"⟩ : MethodName) (head1 (Jvm.Cond.code (⟨"java/util/Map", "of", "()Ljava/util/Map;"⟩ : MethodName) jdk_72_method_26_code 0 (some (.object "java/util/Map")) :: ws) ({ frames := 0, cells := 0, slots := 0, locals := 0 } : Room)) (fun as_ U_ => as_ = #[] ∧ Z.Warmed39 U_.vm ∧ U_.heap = h0) (fun _ _ _ _ _ => True) (fun _ U_ o_ U2_ => ∃ v_ L_, o_ = .returned v_ ∧ (Q_rmMo Z x h0 n0) v_ U2_.heap L_ ∧ FrameEnd U_ o_ U2_ L_ ({ frames := 0, cells := 0, slots := 0, locals := 0 } : Room).cells ({ frames := 0, cells := 0, slots := 0, locals := 0 } : Room).slots) := by
  refine MetFree.of_bodySF (plainFor_of_name (by first | (simp [plainName, overriddenIn]; done) | decide +kernel : plainName "java/util/Map" = true)) hisR ?_
  intro p e s m args below meth c s₁ Bd hml0 hP hK
  obtain ⟨rfl, hZ, hh⟩ := hP
  have hx := Bd.exec
  have hby := Bd.bytes
  have hlk := Bd.notSynchronized
  have hml : c.maxLocals = 0 := hml0
  have hown : s.vm.findClass "java/util/Map" = some m.cls := findClass_of_methodNamed Bd.named
  have hnm := (name_of_methodNamed Bd.named Bd.method).1
  have X0 : Stand p l e ({ frames := 0, cells := 0, slots := 0, locals := 0 } : Room) s m #[] below meth c s₁ [] 0 0 := Stand.of_body Bd
  have e0 : s₁.heap = h0 := by rw [← hh, Bd.state]; rfl
  have N0 := Fr.nil n0
  show own_Go p e below (own_R s below (Q_rmMo Z x h0 n0) ({ frames := 0, cells := 0, slots := 0, locals := 0 } : Room).cells ({ frames := 0, cells := 0, slots := 0, locals := 0 } : Room).slots) (s₁.setTop (entryFrame m #[] 0))
  refine own_bk (S' := (s₁.setTop (mkF m 0 #[] []))) (fun t_ kont => castTop (ef_rmMo m ) kont) ?_
  obtain ⟨T1, X2, e3, st4⟩ := getS2 X0 hx hZ hown (host := "") (Or.inl (hw _ (List.mem_of_getElem? (i := 69) rfl))) Via.refl e0 S (g := (mkF m 0 #[] [])) rfl (hb hby d11_0)
  refine own_bk (S' := (T1.setTop (mkF m 3 #[] [(.ref x)]))) st4 ?_
  exact own_retA X2 hx hlk Bd.returns rfl rfl rfl (hb hby d11_3) ⟨rfl, N0, e3⟩ (by decide) (by decide)
theorem d13_0 : decode jdk_96_method_29_code 0 = .ok (.aload_n 0, 1) := by decide +kernel
theorem d13_1 : decode jdk_96_method_29_code 1 = .ok (.instanceof 31, 3) := by decide +kernel
theorem d13_4 : decode jdk_96_method_29_code 4 = .ok (.ifCond .eq 8, 3) := by decide +kernel
theorem d13_7 : decode jdk_96_method_29_code 7 = .ok (.aload_n 0, 1) := by decide +kernel
theorem d13_8 : decode jdk_96_method_29_code 8 = .ok (.checkcast 33, 3) := by decide +kernel
theorem d13_11 : decode jdk_96_method_29_code 11 = .ok (.areturn, 1) := by decide +kernel
theorem d13_12 : decode jdk_96_method_29_code 12 = .ok (.aload_n 0, 1) := by decide +kernel
theorem d13_13 : decode jdk_96_method_29_code 13 = .ok (.invokeinterface 35 1, 5) := by decide +kernel
theorem d13_18 : decode jdk_96_method_29_code 18 = .ok (.ifCond .eq 7, 3) := by decide +kernel
theorem d13_21 : decode jdk_96_method_29_code 21 = .ok (.invokestatic 41, 3) := by decide +kernel
theorem d13_24 : decode jdk_96_method_29_code 24 = .ok (.areturn, 1) := by decide +kernel
theorem d13_25 : decode jdk_96_method_29_code 25 = .ok (.new 45, 3) := by decide +kernel
theorem d13_28 : decode jdk_96_method_29_code 28 = .ok (.dup, 1) := by decide +kernel
theorem d13_29 : decode jdk_96_method_29_code 29 = .ok (.aload_n 0, 1) := by decide +kernel
theorem d13_30 : decode jdk_96_method_29_code 30 = .ok (.invokespecial 47, 3) := by decide +kernel
theorem d13_33 : decode jdk_96_method_29_code 33 = .ok (.invokevirtual 50, 3) := by decide +kernel
theorem d13_36 : decode jdk_96_method_29_code 36 = .ok (.invokestatic 54, 3) := by decide +kernel
theorem d13_39 : decode jdk_96_method_29_code 39 = .ok (.areturn, 1) := by decide +kernel
theorem ef_rmSc (m : MethodId) (x0 : Addr) : entryFrame m #[(.ref x0)] 1 = mkF m 0 #[.val (.ref x0)] [] := by first | (simp [entryFrame, mkF, argsToLocals, Value.category, maxLocals]; done) | rfl
def Q_rmSc (Z : State) (x : Addr) (h0 : Heap) (n0 : Nat) (v : Option Value) (h : Heap) (L : List Loc) : Prop := v = some (.ref x) ∧ Fr n0 L ∧ h = h0
set_option maxRecDepth 65536 in
set_option maxHeartbeats 40000000 in
theorem rmSc (l : Launch) (Z : State) (a0 : Array Value) (hw : ∀ d ∈ tables_1, d.before a0 Z = true) (ws : List Jvm.Cond) (x : Addr) (h0 : Heap) (n0 : Nat) (Z0 : n0 ≤ h0.size) (E : Exa Z h0 x "java/util/ImmutableCollections$SetN") :
    MetFree l (⟨"java/util/Set", "copyOf", "(Ljava/util/Collection;)Ljava/util/Set;"⟩ : MethodName) (head1 (Jvm.Cond.code (⟨"java/util/Set", "copyOf", "(Ljava/util/Collection;)Ljava/util/Set;"⟩ : MethodName) jdk_96_method_29_code 1 (some (.object "java/util/Set")) :: ws) ({ frames := 0, cells := 0, slots := 0, locals := 0 } : Room)) (fun as_ U_ => as_ = #[(.ref x)] ∧ Z.Warmed39 U_.vm ∧ U_.heap = h0) (fun _ _ _ _ _ => True) (fun _ U_ o_ U2_ => ∃ v_ L_, o_ = .returned v_ ∧ (Q_rmSc Z x h0 n0) v_ U2_.heap L_ ∧ FrameEnd U_ o_ U2_ L_ ({ frames := 0, cells := 0, slots := 0, locals := 0 } : Room).cells ({ frames := 0, cells := 0, slots := 0, locals := 0 } : Room).slots) := by
  refine MetFree.of_bodySF (plainFor_of_name (by first | (simp [plainName, overriddenIn]; done) | decide +kernel : plainName "java/util/Set" = true)) hisR ?_
  intro p e s m args below meth c s₁ Bd hml0 hP hK
  obtain ⟨rfl, hZ, hh⟩ := hP
  have hx := Bd.exec
  have hby := Bd.bytes
  have hlk := Bd.notSynchronized
  have hml : c.maxLocals = 1 := hml0
  have hown : s.vm.findClass "java/util/Set" = some m.cls := findClass_of_methodNamed Bd.named
  have hnm := (name_of_methodNamed Bd.named Bd.method).1
  have X0 : Stand p l e ({ frames := 0, cells := 0, slots := 0, locals := 0 } : Room) s m #[(.ref x)] below meth c s₁ [] 0 0 := Stand.of_body Bd
  have e0 : s₁.heap = h0 := by rw [← hh, Bd.state]; rfl
  have N0 := Fr.nil n0
  show own_Go p e below (own_R s below (Q_rmSc Z x h0 n0) ({ frames := 0, cells := 0, slots := 0, locals := 0 } : Room).cells ({ frames := 0, cells := 0, slots := 0, locals := 0 } : Room).slots) (s₁.setTop (entryFrame m #[(.ref x)] 1))
  refine own_bk (S' := (s₁.setTop (mkF m 0 #[rv x] []))) (fun t_ kont => castTop (ef_rmSc m (x)) kont) ?_
  refine own_bk (S' := (s₁.setTop (mkF m 1 #[rv x] [(.ref x)]))) (fun t_ kont => XS.aloadN X0.here hx rfl (hb hby d13_0) rfl rfl kont) ?_
  obtain ⟨T1, X2, e3, st4⟩ := instY X0 hx hZ hown (hw _ (List.mem_of_getElem? (i := 79) rfl)) e0 (Ins.of_exa E (hw _ (List.mem_of_getElem? (i := 80) rfl))) (g := (mkF m 1 #[rv x] [(.ref x)])) rfl rfl (hb hby d13_1)
  refine own_bk (S' := (T1.setTop (mkF m 4 #[rv x] [(.int (1 : Int32))]))) st4 ?_
  refine own_bk (S' := (T1.setTop (mkF m 7 #[rv x] []))) (fun t_ kont => XS.ifNo X2.here hx rfl (hb hby d13_4) rfl ((if0 _ _).trans (feq (by decide : ¬ ((1 : Int32)) = ((0 : Int32)))).1) kont) ?_
  refine own_bk (S' := (T1.setTop (mkF m 8 #[rv x] [(.ref x)]))) (fun t_ kont => XS.aloadN X2.here hx rfl (hb hby d13_7) rfl rfl kont) ?_
  obtain ⟨T5, X6, e7, st8⟩ := castY X2 hx hZ hown (hw _ (List.mem_of_getElem? (i := 81) rfl)) e3 (Ins.of_exa E (hw _ (List.mem_of_getElem? (i := 82) rfl))) (g := (mkF m 8 #[rv x] [(.ref x)])) rfl rfl (hb hby d13_8)
  refine own_bk (S' := (T5.setTop (mkF m 11 #[rv x] [(.ref x)]))) st8 ?_
  exact own_retA X6 hx hlk Bd.returns rfl rfl rfl (hb hby d13_11) ⟨rfl, N0, e7⟩ (by decide) (by decide)
theorem d14_0 : decode jdk_72_method_39_code 0 = .ok (.aload_n 0, 1) := by decide +kernel
theorem d14_1 : decode jdk_72_method_39_code 1 = .ok (.instanceof 101, 3) := by decide +kernel
theorem d14_4 : decode jdk_72_method_39_code 4 = .ok (.ifCond .eq 5, 3) := by decide +kernel
theorem d14_7 : decode jdk_72_method_39_code 7 = .ok (.aload_n 0, 1) := by decide +kernel
theorem d14_8 : decode jdk_72_method_39_code 8 = .ok (.areturn, 1) := by decide +kernel
theorem d14_9 : decode jdk_72_method_39_code 9 = .ok (.aload_n 0, 1) := by decide +kernel
theorem d14_10 : decode jdk_72_method_39_code 10 = .ok (.invokeinterface 103 1, 5) := by decide +kernel
theorem d14_15 : decode jdk_72_method_39_code 15 = .ok (.ifCond .eq 7, 3) := by decide +kernel
theorem d14_18 : decode jdk_72_method_39_code 18 = .ok (.invokestatic 106, 3) := by decide +kernel
theorem d14_21 : decode jdk_72_method_39_code 21 = .ok (.areturn, 1) := by decide +kernel
theorem d14_22 : decode jdk_72_method_39_code 22 = .ok (.aload_n 0, 1) := by decide +kernel
theorem d14_23 : decode jdk_72_method_39_code 23 = .ok (.invokeinterface 16 1, 5) := by decide +kernel
theorem d14_28 : decode jdk_72_method_39_code 28 = .ok (.iconst 0, 1) := by decide +kernel
theorem d14_29 : decode jdk_72_method_39_code 29 = .ok (.anewarray 36, 3) := by decide +kernel
theorem d14_32 : decode jdk_72_method_39_code 32 = .ok (.invokeinterface 110 2, 5) := by decide +kernel
theorem d14_37 : decode jdk_72_method_39_code 37 = .ok (.checkcast 114, 3) := by decide +kernel
theorem d14_40 : decode jdk_72_method_39_code 40 = .ok (.invokestatic 116, 3) := by decide +kernel
theorem d14_43 : decode jdk_72_method_39_code 43 = .ok (.areturn, 1) := by decide +kernel
theorem ef_rmMc (m : MethodId) (x0 : Addr) : entryFrame m #[(.ref x0)] 1 = mkF m 0 #[.val (.ref x0)] [] := by first | (simp [entryFrame, mkF, argsToLocals, Value.category, maxLocals]; done) | rfl
def Q_rmMc (Z : State) (x : Addr) (h0 : Heap) (n0 : Nat) (v : Option Value) (h : Heap) (L : List Loc) : Prop := v = some (.ref x) ∧ Fr n0 L ∧ h = h0
set_option maxRecDepth 65536 in
set_option maxHeartbeats 40000000 in
theorem rmMc (l : Launch) (Z : State) (a0 : Array Value) (hw : ∀ d ∈ tables_1, d.before a0 Z = true) (ws : List Jvm.Cond) (x : Addr) (h0 : Heap) (n0 : Nat) (Z0 : n0 ≤ h0.size) (E : Exa Z h0 x "java/util/ImmutableCollections$MapN") :
    MetFree l (⟨"java/util/Map", "copyOf", "(Ljava/util/Map;)Ljava/util/Map;"⟩ : MethodName) (head1 (Jvm.Cond.code (⟨"java/util/Map", "copyOf", "(Ljava/util/Map;)Ljava/util/Map;"⟩ : MethodName) jdk_72_method_39_code 1 (some (.object "java/util/Map")) :: ws) ({ frames := 0, cells := 0, slots := 0, locals := 0 } : Room)) (fun as_ U_ => as_ = #[(.ref x)] ∧ Z.Warmed39 U_.vm ∧ U_.heap = h0) (fun _ _ _ _ _ => True) (fun _ U_ o_ U2_ => ∃ v_ L_, o_ = .returned v_ ∧ (Q_rmMc Z x h0 n0) v_ U2_.heap L_ ∧ FrameEnd U_ o_ U2_ L_ ({ frames := 0, cells := 0, slots := 0, locals := 0 } : Room).cells ({ frames := 0, cells := 0, slots := 0, locals := 0 } : Room).slots) := by
  refine MetFree.of_bodySF (plainFor_of_name (by first | (simp [plainName, overriddenIn]; done) | decide +kernel : plainName "java/util/Map" = true)) hisR ?_
  intro p e s m args below meth c s₁ Bd hml0 hP hK
  obtain ⟨rfl, hZ, hh⟩ := hP
  have hx := Bd.exec
  have hby := Bd.bytes
  have hlk := Bd.notSynchronized
  have hml : c.maxLocals = 1 := hml0
  have hown : s.vm.findClass "java/util/Map" = some m.cls := findClass_of_methodNamed Bd.named
  have hnm := (name_of_methodNamed Bd.named Bd.method).1
  have X0 : Stand p l e ({ frames := 0, cells := 0, slots := 0, locals := 0 } : Room) s m #[(.ref x)] below meth c s₁ [] 0 0 := Stand.of_body Bd
  have e0 : s₁.heap = h0 := by rw [← hh, Bd.state]; rfl
  have N0 := Fr.nil n0
  show own_Go p e below (own_R s below (Q_rmMc Z x h0 n0) ({ frames := 0, cells := 0, slots := 0, locals := 0 } : Room).cells ({ frames := 0, cells := 0, slots := 0, locals := 0 } : Room).slots) (s₁.setTop (entryFrame m #[(.ref x)] 1))
  refine own_bk (S' := (s₁.setTop (mkF m 0 #[rv x] []))) (fun t_ kont => castTop (ef_rmMc m (x)) kont) ?_
  refine own_bk (S' := (s₁.setTop (mkF m 1 #[rv x] [(.ref x)]))) (fun t_ kont => XS.aloadN X0.here hx rfl (hb hby d14_0) rfl rfl kont) ?_
  obtain ⟨T1, X2, e3, st4⟩ := instY X0 hx hZ hown (hw _ (List.mem_of_getElem? (i := 86) rfl)) e0 (Ins.of_exa E (hw _ (List.mem_of_getElem? (i := 87) rfl))) (g := (mkF m 1 #[rv x] [(.ref x)])) rfl rfl (hb hby d14_1)
  refine own_bk (S' := (T1.setTop (mkF m 4 #[rv x] [(.int (1 : Int32))]))) st4 ?_
  refine own_bk (S' := (T1.setTop (mkF m 7 #[rv x] []))) (fun t_ kont => XS.ifNo X2.here hx rfl (hb hby d14_4) rfl ((if0 _ _).trans (feq (by decide : ¬ ((1 : Int32)) = ((0 : Int32)))).1) kont) ?_
  refine own_bk (S' := (T1.setTop (mkF m 8 #[rv x] [(.ref x)]))) (fun t_ kont => XS.aloadN X2.here hx rfl (hb hby d14_7) rfl rfl kont) ?_
  exact own_retA X2 hx hlk Bd.returns rfl rfl rfl (hb hby d14_8) ⟨rfl, N0, e3⟩ (by decide) (by decide)
theorem d7_0 : decode prog_46_method_1_code 0 = .ok (.aload_n 0, 1) := by decide +kernel
theorem d7_1 : decode prog_46_method_1_code 1 = .ok (.invokespecial 1, 3) := by decide +kernel
theorem d7_4 : decode prog_46_method_1_code 4 = .ok (.aload_n 1, 1) := by decide +kernel
theorem d7_5 : decode prog_46_method_1_code 5 = .ok (.ldc 7, 2) := by decide +kernel
theorem d7_7 : decode prog_46_method_1_code 7 = .ok (.invokestatic 9, 3) := by decide +kernel
theorem d7_10 : decode prog_46_method_1_code 10 = .ok (.pop, 1) := by decide +kernel
theorem d7_11 : decode prog_46_method_1_code 11 = .ok (.iload_n 2, 1) := by decide +kernel
theorem d7_12 : decode prog_46_method_1_code 12 = .ok (.ifCond .lt 7, 3) := by decide +kernel
theorem d7_15 : decode prog_46_method_1_code 15 = .ok (.iload_n 3, 1) := by decide +kernel
theorem d7_16 : decode prog_46_method_1_code 16 = .ok (.ifCond .ge 13, 3) := by decide +kernel
theorem d7_19 : decode prog_46_method_1_code 19 = .ok (.new 15, 3) := by decide +kernel
theorem d7_22 : decode prog_46_method_1_code 22 = .ok (.dup, 1) := by decide +kernel
theorem d7_23 : decode prog_46_method_1_code 23 = .ok (.ldc 17, 2) := by decide +kernel
theorem d7_25 : decode prog_46_method_1_code 25 = .ok (.invokespecial 19, 3) := by decide +kernel
theorem d7_28 : decode prog_46_method_1_code 28 = .ok (.athrow, 1) := by decide +kernel
theorem d7_29 : decode prog_46_method_1_code 29 = .ok (.aload_n 0, 1) := by decide +kernel
theorem d7_30 : decode prog_46_method_1_code 30 = .ok (.aload_n 1, 1) := by decide +kernel
theorem d7_31 : decode prog_46_method_1_code 31 = .ok (.putfield 22, 3) := by decide +kernel
theorem d7_34 : decode prog_46_method_1_code 34 = .ok (.aload_n 0, 1) := by decide +kernel
theorem d7_35 : decode prog_46_method_1_code 35 = .ok (.iload_n 2, 1) := by decide +kernel
theorem d7_36 : decode prog_46_method_1_code 36 = .ok (.putfield 27, 3) := by decide +kernel
theorem d7_39 : decode prog_46_method_1_code 39 = .ok (.aload_n 0, 1) := by decide +kernel
theorem d7_40 : decode prog_46_method_1_code 40 = .ok (.iload_n 3, 1) := by decide +kernel
theorem d7_41 : decode prog_46_method_1_code 41 = .ok (.putfield 31, 3) := by decide +kernel
theorem d7_44 : decode prog_46_method_1_code 44 = .ok (.return_, 1) := by decide +kernel
theorem ef_rmPos (m : MethodId) (x0 : Addr) (x1 : Addr) (x2 : Int32) (x3 : Int32) : entryFrame m #[(.ref x0), (.ref x1), (.int x2), (.int x3)] 4 = mkF m 0 #[.val (.ref x0), .val (.ref x1), .val (.int x2), .val (.int x3)] [] := by first | (simp [entryFrame, mkF, argsToLocals, Value.category, maxLocals]; done) | rfl
def Q_rmPos (Z : State) (a f : Addr) (ln co : Int32) (h0 : Heap) (n0 : Nat) (v : Option Value) (h : Heap) (L : List Loc) : Prop := v = none ∧ Fr n0 L ∧ Old Z n0 h ∧ Keep h0 h [a] ∧ Fld Z h a "com/example/overweave/overweave/model/Position" "file" "Ljava/lang/String;" (.ref f) ∧ Fld Z h a "com/example/overweave/overweave/model/Position" "line" "I" (.int ln) ∧ Fld Z h a "com/example/overweave/overweave/model/Position" "column" "I" (.int co)
set_option maxRecDepth 65536 in
set_option maxHeartbeats 40000000 in
theorem rmPos (l : Launch) (Z : State) (a0 : Array Value) (hw : ∀ d ∈ tables_1, d.before a0 Z = true) (ws : List Jvm.Cond) (a f : Addr) (ln co : Int32) (h0 : Heap) (n0 : Nat) (Z0 : n0 ≤ h0.size) (O : Old Z n0 h0) (E : Exa Z h0 a "com/example/overweave/overweave/model/Position") (ag : n0 ≤ a) (F0 : Fld Z h0 a "com/example/overweave/overweave/model/Position" "file" "Ljava/lang/String;" .null) (F1 : Fld Z h0 a "com/example/overweave/overweave/model/Position" "line" "I" (.int (0 : Int32))) (F2 : Fld Z h0 a "com/example/overweave/overweave/model/Position" "column" "I" (.int (0 : Int32))) (hl : ¬ ln < 0) (hc : ¬ co < 0) :
    MetFree l (⟨"com/example/overweave/overweave/model/Position", "<init>", "(Ljava/lang/String;II)V"⟩ : MethodName) (head1 (Jvm.Cond.code (⟨"com/example/overweave/overweave/model/Position", "<init>", "(Ljava/lang/String;II)V"⟩ : MethodName) prog_46_method_1_code 4 none :: ws) ({ frames := 2, cells := 2, slots := 20, locals := 40 } : Room)) (fun as_ U_ => as_ = #[(.ref a), (.ref f), (.int ln), (.int co)] ∧ Z.Warmed39 U_.vm ∧ U_.heap = h0) (fun _ _ _ _ _ => True) (fun _ U_ o_ U2_ => ∃ v_ L_, o_ = .returned v_ ∧ (Q_rmPos Z a f ln co h0 n0) v_ U2_.heap L_ ∧ ReturnedEndW U_ o_ U2_ L_ ({ frames := 2, cells := 2, slots := 20, locals := 40 } : Room).cells ({ frames := 2, cells := 2, slots := 20, locals := 40 } : Room).slots) := by
  refine MetFree.of_bodySF (plainFor_of_name (by first | (simp [plainName, overriddenIn]; done) | decide +kernel : plainName "com/example/overweave/overweave/model/Position" = true)) hisR ?_
  intro p e s m args below meth c s₁ Bd hml0 hP hK
  obtain ⟨rfl, hZ, hh⟩ := hP
  have hx := Bd.exec
  have hby := Bd.bytes
  have hlk := Bd.notSynchronized
  have hml : c.maxLocals = 4 := hml0
  have hown : s.vm.findClass "com/example/overweave/overweave/model/Position" = some m.cls := findClass_of_methodNamed Bd.named
  have hnm := (name_of_methodNamed Bd.named Bd.method).1
  have X0 : Stand p l e ({ frames := 2, cells := 2, slots := 20, locals := 40 } : Room) (s.setVm s.vm) m #[(.ref a), (.ref f), (.int ln), (.int co)] below meth c s₁ [] 0 0 := Stand.of_body Bd
  have hS : s.Since s.vm 0 := (State.WarmedH.refl s).since 0
  have hk0 : 0 ≤ h0.size := Nat.zero_le _
  have hwS : ∀ d ∈ Bundle.stringAtoms, d.before a0 Z = true := fun d hd => hw d ((by decide +kernel : ∀ d ∈ Bundle.stringAtoms, d ∈ tables_1) d hd)
  have e0 : s₁.heap = h0 := by rw [← hh, Bd.state]; rfl
  have N0 := Fr.nil n0
  show own_Go p e below (own_RW s below (Q_rmPos Z a f ln co h0 n0) ({ frames := 2, cells := 2, slots := 20, locals := 40 } : Room).cells ({ frames := 2, cells := 2, slots := 20, locals := 40 } : Room).slots) (s₁.setTop (entryFrame m #[(.ref a), (.ref f), (.int ln), (.int co)] 4))
  refine own_bk (S' := (s₁.setTop (mkF m 0 #[rv a, rv f, iv ln, iv co] []))) (fun t_ kont => castTop (ef_rmPos m (a) (f) (ln) (co)) kont) ?_
  refine own_bk (S' := (s₁.setTop (mkF m 1 #[rv a, rv f, iv ln, iv co] [(.ref a)]))) (fun t_ kont => XS.aloadN X0.here hx rfl (hb hby d7_0) rfl rfl kont) ?_
  obtain ⟨_, _, ⟨T1, L2, k3, n4⟩, -, X5, ⟨Lc6, hQ7, l8, y9, z10⟩, st11⟩ := X0.specialBack hx (y := (⟨"java/lang/Record", "<init>", "()V"⟩ : MethodName)) rfl hown (mvT hZ (hw _ (List.mem_of_getElem? (i := 37) rfl))) (mvT hZ (hw _ (List.mem_of_getElem? (i := 38) rfl))) (mvT hZ (hw _ (List.mem_of_getElem? (i := 41) rfl))) (by decide) (backOf (W := 0) (rmRec l Z a0 hw [] a h0 n0 Z0) hZ (hw _ (List.mem_of_getElem? (i := 41) rfl)) (hw _ (List.mem_of_getElem? (i := 40) rfl)) (by decide) (by decide)) (g := (mkF m 1 #[rv a, rv f, iv ln, iv co] [(.ref a)])) rfl (by rw [hml]; rfl) (Steps.refl _) (a := a) (argsL := []) (rest := []) (lenOf (by decide +kernel : parseMethodDescriptor "()V" = some ⟨[], none⟩) rfl) rfl (by show 2 * 0 + _ ≤ _; exact Nat.le_of_eq rfl) (hb hby d7_1) (fun _ _ => ⟨rfl, e0, (by decide : 0 + 0 ≤ _), (by decide : 0 + 0 ≤ _)⟩)
  dsimp only [Pt.U, Pt.locs, Pt.cells, Pt.slots] at X5 l8 y9 z10 st11 hQ7
  subst l8 y9 z10
  obtain ⟨rfl, N12, e13⟩ := hQ7
  have N14 := Fr.app N0 N12
  refine own_tr (S' := (T1.setTop (mkF m 4 #[rv a, rv f, iv ln, iv co] []))) st11 ?_
  refine own_bk (S' := (T1.setTop (mkF m 5 #[rv a, rv f, iv ln, iv co] [(.ref f)]))) (fun t_ kont => XS.aloadN X5.here hx rfl (hb hby d7_4) rfl rfl kont) ?_
  obtain ⟨a15, T16, h17, k18, X19, e20, E21, hS, hk23, hZ, hown, st22⟩ := ldcS X5 hx hZ hown (hw _ (List.mem_of_getElem? (i := 43) rfl)) hwS e13 hS hk0 (g := (mkF m 5 #[rv a, rv f, iv ln, iv co] [(.ref f)])) rfl (hb hby d7_5) (n := 16) (by decide +kernel) (by decide) (by decide) (by decide)
  have E24 := (E.ext E21)
  have F25 := (F0.ext E21)
  have F26 := (F1.ext E21)
  have F27 := (F2.ext E21)
  have Z28 := Nat.le_trans Z0 E21.1
  have O29 := O.ext E21
  have K30 := (Keep.refl h0 [a]).ext E21
  refine own_bk (S' := (T16.setTop (mkF m 7 #[rv a, rv f, iv ln, iv co] [(.ref a15), (.ref f)]))) st22 ?_
  obtain ⟨_, _, ⟨T31, L32, k33, n34⟩, -, X35, ⟨Lc36, hQ37, l38, y39, z40⟩, st41⟩ := Jvm.LawKit.callS X19 hx (y := (⟨"java/util/Objects", "requireNonNull", "(Ljava/lang/Object;Ljava/lang/String;)Ljava/lang/Object;"⟩ : MethodName)) hown (mvT hZ (hw _ (List.mem_of_getElem? (i := 46) rfl))) (mvT hZ (hw _ (List.mem_of_getElem? (i := 47) rfl))) (mvT hZ (hw _ (List.mem_of_getElem? (i := 48) rfl))) (mvT hZ (hw _ (List.mem_of_getElem? (i := 49) rfl))) (by decide) (backOf (W := 0) (rmNN l Z a0 hw [] f a15 h17 n0 Z28) hZ (hw _ (List.mem_of_getElem? (i := 49) rfl)) (hw _ (List.mem_of_getElem? (i := 48) rfl)) (by decide) (by decide)) (g := (mkF m 7 #[rv a, rv f, iv ln, iv co] [(.ref a15), (.ref f)])) rfl (by rw [hml]; rfl) (argsL := [(.ref f), (.ref a15)]) (rest := []) (lenOf (by decide +kernel : parseMethodDescriptor "(Ljava/lang/Object;Ljava/lang/String;)Ljava/lang/Object;" = some ⟨[(.object "java/lang/Object"), (.object "java/lang/String")], some (.object "java/lang/Object")⟩) rfl) rfl (by show 2 * 0 + _ ≤ _; exact Nat.le_of_eq rfl) (hb hby d7_7) (fun _ _ => ⟨rfl, e20, (by decide : 2 + 0 ≤ _), (by decide : 20 + 0 ≤ _)⟩)
  dsimp only [Pt.U, Pt.locs, Pt.cells, Pt.slots] at X35 l38 y39 z40 st41 hQ37
  subst l38 y39 z40
  obtain ⟨rfl, N42, e43⟩ := hQ37
  have N44 := Fr.app N14 N42
  refine own_bk (S' := (T31.setTop (mkF m 10 #[rv a, rv f, iv ln, iv co] [(.ref f)]))) st41 ?_
  refine own_bk (S' := (T31.setTop (mkF m 11 #[rv a, rv f, iv ln, iv co] []))) (fun t_ kont => XS.pop X35.here hx rfl (hb hby d7_10) rfl rfl kont) ?_
  refine own_bk (S' := (T31.setTop (mkF m 12 #[rv a, rv f, iv ln, iv co] [(.int ln)]))) (fun t_ kont => XS.iloadN X35.here hx rfl (hb hby d7_11) rfl kont) ?_
  refine own_bk (S' := (T31.setTop (mkF m 15 #[rv a, rv f, iv ln, iv co] []))) (fun t_ kont => XS.ifNo X35.here hx rfl (hb hby d7_12) rfl ((if0 _ _).trans (flt (hl)).1) kont) ?_
  refine own_bk (S' := (T31.setTop (mkF m 16 #[rv a, rv f, iv ln, iv co] [(.int co)]))) (fun t_ kont => XS.iloadN X35.here hx rfl (hb hby d7_15) rfl kont) ?_
  refine own_bk (S' := (T31.setTop (mkF m 29 #[rv a, rv f, iv ln, iv co] []))) (fun t_ kont => XS.ifYes X35.here hx rfl (pc0 := 16) (pc' := 29) rfl (hb hby d7_16) rfl ((if0 _ _).trans (flt (hc)).2.1) (by decide) (by decide) kont) ?_
  refine own_bk (S' := (T31.setTop (mkF m 30 #[rv a, rv f, iv ln, iv co] [(.ref a)]))) (fun t_ kont => XS.aloadN X35.here hx rfl (hb hby d7_29) rfl rfl kont) ?_
  refine own_bk (S' := (T31.setTop (mkF m 31 #[rv a, rv f, iv ln, iv co] [(.ref f), (.ref a)]))) (fun t_ kont => XS.aloadN X35.here hx rfl (hb hby d7_30) rfl rfl kont) ?_
  obtain ⟨T45, h46, X47, e48, W49, st50⟩ := putF X35 hx hZ hown (host := "") (Or.inl (hw _ (List.mem_of_getElem? (i := 50) rfl))) Via.refl e43 F25 E24 (Or.inr ⟨(hw _ (List.mem_of_getElem? (i := 51) rfl)), rfl, hnm⟩) (hw _ (List.mem_of_getElem? (i := 32) rfl)) (ty := (.object "java/lang/String")) (by decide +kernel) rfl rfl (g := (mkF m 31 #[rv a, rv f, iv ln, iv co] [(.ref f), (.ref a)])) rfl rfl (hb hby d7_31)
  have N51 := Fr.snoc X47 N44 ag
  have E52 := (E24.wr W49)
  have F53 := (F25.same W49)
  have F54 := (F26.other W49 (Or.inr (slot_ne (Or.inr (hw _ (List.mem_of_getElem? (i := 53) rfl))) (Or.inr (hw _ (List.mem_of_getElem? (i := 51) rfl))) (by decide) (show parseFieldDescriptor "I" = some .int from by decide +kernel) (show parseFieldDescriptor "Ljava/lang/String;" = some (.object "java/lang/String") from by decide +kernel))))
  have F55 := (F27.other W49 (Or.inr (slot_ne (Or.inr (hw _ (List.mem_of_getElem? (i := 55) rfl))) (Or.inr (hw _ (List.mem_of_getElem? (i := 51) rfl))) (by decide) (show parseFieldDescriptor "I" = some .int from by decide +kernel) (show parseFieldDescriptor "Ljava/lang/String;" = some (.object "java/lang/String") from by decide +kernel))))
  have Z56 := Nat.le_trans Z28 (Keep.of_wr W49).1
  have hk57 := Nat.le_trans hk23 (Keep.of_wr W49).1
  have O58 := O29.wr W49 ag
  have K59 := K30.wr W49 (Or.inl (List.mem_of_getElem? (i := 0) rfl))
  refine own_bk (S' := (T45.setTop (mkF m 34 #[rv a, rv f, iv ln, iv co] []))) st50 ?_
  refine own_bk (S' := (T45.setTop (mkF m 35 #[rv a, rv f, iv ln, iv co] [(.ref a)]))) (fun t_ kont => XS.aloadN X47.here hx rfl (hb hby d7_34) rfl rfl kont) ?_
  refine own_bk (S' := (T45.setTop (mkF m 36 #[rv a, rv f, iv ln, iv co] [(.int ln), (.ref a)]))) (fun t_ kont => XS.iloadN X47.here hx rfl (hb hby d7_35) rfl kont) ?_
  obtain ⟨T60, h61, X62, e63, W64, st65⟩ := putF X47 hx hZ hown (host := "") (Or.inl (hw _ (List.mem_of_getElem? (i := 52) rfl))) Via.refl e48 F54 E52 (Or.inr ⟨(hw _ (List.mem_of_getElem? (i := 53) rfl)), rfl, hnm⟩) (hw _ (List.mem_of_getElem? (i := 32) rfl)) (ty := .int) (by decide +kernel) rfl rfl (g := (mkF m 36 #[rv a, rv f, iv ln, iv co] [(.int ln), (.ref a)])) rfl rfl (hb hby d7_36)
  have N66 := Fr.snoc X62 N51 ag
  have E67 := (E52.wr W64)
  have F68 := (F53.other W64 (Or.inr (slot_ne (Or.inr (hw _ (List.mem_of_getElem? (i := 51) rfl))) (Or.inr (hw _ (List.mem_of_getElem? (i := 53) rfl))) (by decide) (show parseFieldDescriptor "Ljava/lang/String;" = some (.object "java/lang/String") from by decide +kernel) (show parseFieldDescriptor "I" = some .int from by decide +kernel))))
  have F69 := (F54.same W64)
  have F70 := (F55.other W64 (Or.inr (slot_ne (Or.inr (hw _ (List.mem_of_getElem? (i := 55) rfl))) (Or.inr (hw _ (List.mem_of_getElem? (i := 53) rfl))) (by decide) (show parseFieldDescriptor "I" = some .int from by decide +kernel) (show parseFieldDescriptor "I" = some .int from by decide +kernel))))
  have Z71 := Nat.le_trans Z56 (Keep.of_wr W64).1
  have hk72 := Nat.le_trans hk57 (Keep.of_wr W64).1
  have O73 := O58.wr W64 ag
  have K74 := K59.wr W64 (Or.inl (List.mem_of_getElem? (i := 0) rfl))
  refine own_bk (S' := (T60.setTop (mkF m 39 #[rv a, rv f, iv ln, iv co] []))) st65 ?_
  refine own_bk (S' := (T60.setTop (mkF m 40 #[rv a, rv f, iv ln, iv co] [(.ref a)]))) (fun t_ kont => XS.aloadN X62.here hx rfl (hb hby d7_39) rfl rfl kont) ?_
  refine own_bk (S' := (T60.setTop (mkF m 41 #[rv a, rv f, iv ln, iv co] [(.int co), (.ref a)]))) (fun t_ kont => XS.iloadN X62.here hx rfl (hb hby d7_40) rfl kont) ?_
  obtain ⟨T75, h76, X77, e78, W79, st80⟩ := putF X62 hx hZ hown (host := "") (Or.inl (hw _ (List.mem_of_getElem? (i := 54) rfl))) Via.refl e63 F70 E67 (Or.inr ⟨(hw _ (List.mem_of_getElem? (i := 55) rfl)), rfl, hnm⟩) (hw _ (List.mem_of_getElem? (i := 32) rfl)) (ty := .int) (by decide +kernel) rfl rfl (g := (mkF m 41 #[rv a, rv f, iv ln, iv co] [(.int co), (.ref a)])) rfl rfl (hb hby d7_41)
  have N81 := Fr.snoc X77 N66 ag
  have E82 := (E67.wr W79)
  have F83 := (F68.other W79 (Or.inr (slot_ne (Or.inr (hw _ (List.mem_of_getElem? (i := 51) rfl))) (Or.inr (hw _ (List.mem_of_getElem? (i := 55) rfl))) (by decide) (show parseFieldDescriptor "Ljava/lang/String;" = some (.object "java/lang/String") from by decide +kernel) (show parseFieldDescriptor "I" = some .int from by decide +kernel))))
  have F84 := (F69.other W79 (Or.inr (slot_ne (Or.inr (hw _ (List.mem_of_getElem? (i := 53) rfl))) (Or.inr (hw _ (List.mem_of_getElem? (i := 55) rfl))) (by decide) (show parseFieldDescriptor "I" = some .int from by decide +kernel) (show parseFieldDescriptor "I" = some .int from by decide +kernel))))
  have F85 := (F70.same W79)
  have Z86 := Nat.le_trans Z71 (Keep.of_wr W79).1
  have hk87 := Nat.le_trans hk72 (Keep.of_wr W79).1
  have O88 := O73.wr W79 ag
  have K89 := K74.wr W79 (Or.inl (List.mem_of_getElem? (i := 0) rfl))
  refine own_bk (S' := (T75.setTop (mkF m 44 #[rv a, rv f, iv ln, iv co] []))) st80 ?_
  exact own_retVW hS X77 (by rw [show T75.heap = h76 from e78]; exact hk87) hx hlk Bd.returns (hb hby d7_44) (by rw [e78]; exact ⟨rfl, N81, O88, K89, F83, F84, F85⟩) (by decide) (by decide)
theorem d12_0 : decode prog_39_method_1_code 0 = .ok (.aload_n 0, 1) := by decide +kernel
theorem d12_1 : decode prog_39_method_1_code 1 = .ok (.invokespecial 3, 3) := by decide +kernel
theorem d12_4 : decode prog_39_method_1_code 4 = .ok (.aload_n 1, 1) := by decide +kernel
theorem d12_5 : decode prog_39_method_1_code 5 = .ok (.ldc 9, 2) := by decide +kernel
theorem d12_7 : decode prog_39_method_1_code 7 = .ok (.invokestatic 11, 3) := by decide +kernel
theorem d12_10 : decode prog_39_method_1_code 10 = .ok (.pop, 1) := by decide +kernel
theorem d12_11 : decode prog_39_method_1_code 11 = .ok (.aload 5, 2) := by decide +kernel
theorem d12_13 : decode prog_39_method_1_code 13 = .ok (.invokestatic 17, 3) := by decide +kernel
theorem d12_16 : decode prog_39_method_1_code 16 = .ok (.astore 5, 2) := by decide +kernel
theorem d12_18 : decode prog_39_method_1_code 18 = .ok (.aload 6, 2) := by decide +kernel
theorem d12_20 : decode prog_39_method_1_code 20 = .ok (.invokestatic 23, 3) := by decide +kernel
theorem d12_23 : decode prog_39_method_1_code 23 = .ok (.astore 6, 2) := by decide +kernel
theorem d12_25 : decode prog_39_method_1_code 25 = .ok (.aload_n 0, 1) := by decide +kernel
theorem d12_26 : decode prog_39_method_1_code 26 = .ok (.aload_n 1, 1) := by decide +kernel
theorem d12_27 : decode prog_39_method_1_code 27 = .ok (.putfield 28, 3) := by decide +kernel
theorem d12_30 : decode prog_39_method_1_code 30 = .ok (.aload_n 0, 1) := by decide +kernel
theorem d12_31 : decode prog_39_method_1_code 31 = .ok (.aload_n 2, 1) := by decide +kernel
theorem d12_32 : decode prog_39_method_1_code 32 = .ok (.putfield 33, 3) := by decide +kernel
theorem d12_35 : decode prog_39_method_1_code 35 = .ok (.aload_n 0, 1) := by decide +kernel
theorem d12_36 : decode prog_39_method_1_code 36 = .ok (.aload_n 3, 1) := by decide +kernel
theorem d12_37 : decode prog_39_method_1_code 37 = .ok (.putfield 36, 3) := by decide +kernel
theorem d12_40 : decode prog_39_method_1_code 40 = .ok (.aload_n 0, 1) := by decide +kernel
theorem d12_41 : decode prog_39_method_1_code 41 = .ok (.aload 4, 2) := by decide +kernel
theorem d12_43 : decode prog_39_method_1_code 43 = .ok (.putfield 40, 3) := by decide +kernel
theorem d12_46 : decode prog_39_method_1_code 46 = .ok (.aload_n 0, 1) := by decide +kernel
theorem d12_47 : decode prog_39_method_1_code 47 = .ok (.aload 5, 2) := by decide +kernel
theorem d12_49 : decode prog_39_method_1_code 49 = .ok (.putfield 43, 3) := by decide +kernel
theorem d12_52 : decode prog_39_method_1_code 52 = .ok (.aload_n 0, 1) := by decide +kernel
theorem d12_53 : decode prog_39_method_1_code 53 = .ok (.aload 6, 2) := by decide +kernel
theorem d12_55 : decode prog_39_method_1_code 55 = .ok (.putfield 47, 3) := by decide +kernel
theorem d12_58 : decode prog_39_method_1_code 58 = .ok (.return_, 1) := by decide +kernel
theorem ef_rmAppN (m : MethodId) (x0 : Addr) (x1 : Addr) (x5 : Addr) (x6 : Addr) : entryFrame m #[(.ref x0), (.ref x1), .null, .null, .null, (.ref x5), (.ref x6)] 7 = mkF m 0 #[.val (.ref x0), .val (.ref x1), .val .null, .val .null, .val .null, .val (.ref x5), .val (.ref x6)] [] := by first | (simp [entryFrame, mkF, argsToLocals, Value.category, maxLocals]; done) | rfl
def Q_rmAppN (Z : State) (a mn xs xm : Addr) (h0 : Heap) (n0 : Nat) (v : Option Value) (h : Heap) (L : List Loc) : Prop := v = none ∧ Fr n0 L ∧ Old Z n0 h ∧ Keep h0 h [a] ∧ Fld Z h a "com/example/overweave/overweave/merge/SdkLevels$App" "main" "Lcom/example/overweave/overweave/model/Position;" (.ref mn) ∧ Fld Z h a "com/example/overweave/overweave/merge/SdkLevels$App" "usesSdk" "Lcom/example/overweave/overweave/model/Position;" .null
set_option maxRecDepth 65536 in
set_option maxHeartbeats 40000000 in
theorem rmAppN (l : Launch) (Z : State) (a0 : Array Value) (hw : ∀ d ∈ tables_1, d.before a0 Z = true) (ws : List Jvm.Cond) (a mn xs xm : Addr) (h0 : Heap) (n0 : Nat) (Z0 : n0 ≤ h0.size) (O : Old Z n0 h0) (ES : Exa Z Z.heap xs "java/util/ImmutableCollections$SetN") (EM : Exa Z Z.heap xm "java/util/ImmutableCollections$MapN") (E : Exa Z h0 a "com/example/overweave/overweave/merge/SdkLevels$App") (ag : n0 ≤ a) (F0 : Fld Z h0 a "com/example/overweave/overweave/merge/SdkLevels$App" "main" "Lcom/example/overweave/overweave/model/Position;" .null) (F1 : Fld Z h0 a "com/example/overweave/overweave/merge/SdkLevels$App" "usesSdk" "Lcom/example/overweave/overweave/model/Position;" .null) (F2 : Fld Z h0 a "com/example/overweave/overweave/merge/SdkLevels$App" "minAttribute" "Lcom/example/overweave/overweave/model/Attribute;" .null) (F3 : Fld Z h0 a "com/example/overweave/overweave/merge/SdkLevels$App" "targetAttribute" "Lcom/example/overweave/overweave/model/Attribute;" .null) (F4 : Fld Z h0 a "com/example/overweave/overweave/merge/SdkLevels$App" "overriding" "Ljava/util/Set;" .null) (F5 : Fld Z h0 a "com/example/overweave/overweave/merge/SdkLevels$App" "properties" "Ljava/util/Map;" .null) :
    MetFree l (⟨"com/example/overweave/overweave/merge/SdkLevels$App", "<init>", "(Lcom/example/overweave/overweave/model/Position;Lcom/example/overweave/overweave/model/Position;Lcom/example/overweave/overweave/model/Attribute;Lcom/example/overweave/overweave/model/Attribute;Ljava/util/Set;Ljava/util/Map;)V"⟩ : MethodName) (head1 (Jvm.Cond.code (⟨"com/example/overweave/overweave/merge/SdkLevels$App", "<init>", "(Lcom/example/overweave/overweave/model/Position;Lcom/example/overweave/overweave/model/Position;Lcom/example/overweave/overweave/model/Attribute;Lcom/example/overweave/overweave/model/Attribute;Ljava/util/Set;Ljava/util/Map;)V"⟩ : MethodName) prog_39_method_1_code 7 none :: ws) ({ frames := 2, cells := 2, slots := 20, locals := 60 } : Room)) (fun as_ U_ => as_ = #[(.ref a), (.ref mn), .null, .null, .null, (.ref xs), (.ref xm)] ∧ Z.Warmed39 U_.vm ∧ U_.heap = h0) (fun _ _ _ _ _ => True) (fun _ U_ o_ U2_ => ∃ v_ L_, o_ = .returned v_ ∧ (Q_rmAppN Z a mn xs xm h0 n0) v_ U2_.heap L_ ∧ ReturnedEndW U_ o_ U2_ L_ ({ frames := 2, cells := 2, slots := 20, locals := 60 } : Room).cells ({ frames := 2, cells := 2, slots := 20, locals := 60 } : Room).slots) := by
  refine MetFree.of_bodySF (plainFor_of_name (by first | (simp [plainName, overriddenIn]; done) | decide +kernel : plainName "com/example/overweave/overweave/merge/SdkLevels$App" = true)) hisR ?_
  intro p e s m args below meth c s₁ Bd hml0 hP hK
  obtain ⟨rfl, hZ, hh⟩ := hP
  have hx := Bd.exec
  have hby := Bd.bytes
  have hlk := Bd.notSynchronized
  have hml : c.maxLocals = 7 := hml0
  have hown : s.vm.findClass "com/example/overweave/overweave/merge/SdkLevels$App" = some m.cls := findClass_of_methodNamed Bd.named
  have hnm := (name_of_methodNamed Bd.named Bd.method).1
  have X0 : Stand p l e ({ frames := 2, cells := 2, slots := 20, locals := 60 } : Room) (s.setVm s.vm) m #[(.ref a), (.ref mn), .null, .null, .null, (.ref xs), (.ref xm)] below meth c s₁ [] 0 0 := Stand.of_body Bd
  have hS : s.Since s.vm 0 := (State.WarmedH.refl s).since 0
  have hk0 : 0 ≤ h0.size := Nat.zero_le _
  have hwS : ∀ d ∈ Bundle.stringAtoms, d.before a0 Z = true := fun d hd => hw d ((by decide +kernel : ∀ d ∈ Bundle.stringAtoms, d ∈ tables_1) d hd)
  have e0 : s₁.heap = h0 := by rw [← hh, Bd.state]; rfl
  have N0 := Fr.nil n0
  show own_Go p e below (own_RW s below (Q_rmAppN Z a mn xs xm h0 n0) ({ frames := 2, cells := 2, slots := 20, locals := 60 } : Room).cells ({ frames := 2, cells := 2, slots := 20, locals := 60 } : Room).slots) (s₁.setTop (entryFrame m #[(.ref a), (.ref mn), .null, .null, .null, (.ref xs), (.ref xm)] 7))
  refine own_bk (S' := (s₁.setTop (mkF m 0 #[rv a, rv mn, .val .null, .val .null, .val .null, rv xs, rv xm] []))) (fun t_ kont => castTop (ef_rmAppN m (a) (mn) (xs) (xm)) kont) ?_
  refine own_bk (S' := (s₁.setTop (mkF m 1 #[rv a, rv mn, .val .null, .val .null, .val .null, rv xs, rv xm] [(.ref a)]))) (fun t_ kont => XS.aloadN X0.here hx rfl (hb hby d12_0) rfl rfl kont) ?_
  obtain ⟨_, _, ⟨T1, L2, k3, n4⟩, -, X5, ⟨Lc6, hQ7, l8, y9, z10⟩, st11⟩ := X0.specialBack hx (y := (⟨"java/lang/Record", "<init>", "()V"⟩ : MethodName)) rfl hown (mvT hZ (hw _ (List.mem_of_getElem? (i := 73) rfl))) (mvT hZ (hw _ (List.mem_of_getElem? (i := 38) rfl))) (mvT hZ (hw _ (List.mem_of_getElem? (i := 41) rfl))) (by decide) (backOf (W := 0) (rmRec l Z a0 hw [] a h0 n0 Z0) hZ (hw _ (List.mem_of_getElem? (i := 41) rfl)) (hw _ (List.mem_of_getElem? (i := 40) rfl)) (by decide) (by decide)) (g := (mkF m 1 #[rv a, rv mn, .val .null, .val .null, .val .null, rv xs, rv xm] [(.ref a)])) rfl (by rw [hml]; rfl) (Steps.refl _) (a := a) (argsL := []) (rest := []) (lenOf (by decide +kernel : parseMethodDescriptor "()V" = some ⟨[], none⟩) rfl) rfl (by show 2 * 0 + _ ≤ _; exact Nat.le_of_eq rfl) (hb hby d12_1) (fun _ _ => ⟨rfl, e0, (by decide : 0 + 0 ≤ _), (by decide : 0 + 0 ≤ _)⟩)
  dsimp only [Pt.U, Pt.locs, Pt.cells, Pt.slots] at X5 l8 y9 z10 st11 hQ7
  subst l8 y9 z10
  obtain ⟨rfl, N12, e13⟩ := hQ7
  have N14 := Fr.app N0 N12
  refine own_tr (S' := (T1.setTop (mkF m 4 #[rv a, rv mn, .val .null, .val .null, .val .null, rv xs, rv xm] []))) st11 ?_
  refine own_bk (S' := (T1.setTop (mkF m 5 #[rv a, rv mn, .val .null, .val .null, .val .null, rv xs, rv xm] [(.ref mn)]))) (fun t_ kont => XS.aloadN X5.here hx rfl (hb hby d12_4) rfl rfl kont) ?_
  obtain ⟨a15, T16, h17, k18, X19, e20, E21, hS, hk23, hZ, hown, st22⟩ := ldcS X5 hx hZ hown (hw _ (List.mem_of_getElem? (i := 74) rfl)) hwS e13 hS hk0 (g := (mkF m 5 #[rv a, rv mn, .val .null, .val .null, .val .null, rv xs, rv xm] [(.ref mn)])) rfl (hb hby d12_5) (n := 16) (by decide +kernel) (by decide) (by decide) (by decide)
  have E24 := (E.ext E21)
  have F25 := (F0.ext E21)
  have F26 := (F1.ext E21)
  have F27 := (F2.ext E21)
  have F28 := (F3.ext E21)
  have F29 := (F4.ext E21)
  have F30 := (F5.ext E21)
  have Z31 := Nat.le_trans Z0 E21.1
  have O32 := O.ext E21
  have K33 := (Keep.refl h0 [a]).ext E21
  refine own_bk (S' := (T16.setTop (mkF m 7 #[rv a, rv mn, .val .null, .val .null, .val .null, rv xs, rv xm] [(.ref a15), (.ref mn)]))) st22 ?_
  obtain ⟨_, _, ⟨T34, L35, k36, n37⟩, -, X38, ⟨Lc39, hQ40, l41, y42, z43⟩, st44⟩ := Jvm.LawKit.callS X19 hx (y := (⟨"java/util/Objects", "requireNonNull", "(Ljava/lang/Object;Ljava/lang/String;)Ljava/lang/Object;"⟩ : MethodName)) hown (mvT hZ (hw _ (List.mem_of_getElem? (i := 75) rfl))) (mvT hZ (hw _ (List.mem_of_getElem? (i := 47) rfl))) (mvT hZ (hw _ (List.mem_of_getElem? (i := 48) rfl))) (mvT hZ (hw _ (List.mem_of_getElem? (i := 49) rfl))) (by decide) (backOf (W := 0) (rmNN l Z a0 hw [] mn a15 h17 n0 Z31) hZ (hw _ (List.mem_of_getElem? (i := 49) rfl)) (hw _ (List.mem_of_getElem? (i := 48) rfl)) (by decide) (by decide)) (g := (mkF m 7 #[rv a, rv mn, .val .null, .val .null, .val .null, rv xs, rv xm] [(.ref a15), (.ref mn)])) rfl (by rw [hml]; rfl) (argsL := [(.ref mn), (.ref a15)]) (rest := []) (lenOf (by decide +kernel : parseMethodDescriptor "(Ljava/lang/Object;Ljava/lang/String;)Ljava/lang/Object;" = some ⟨[(.object "java/lang/Object"), (.object "java/lang/String")], some (.object "java/lang/Object")⟩) rfl) rfl (by show 2 * 0 + _ ≤ _; exact Nat.le_of_eq rfl) (hb hby d12_7) (fun _ _ => ⟨rfl, e20, (by decide : 2 + 0 ≤ _), (by decide : 20 + 0 ≤ _)⟩)
  dsimp only [Pt.U, Pt.locs, Pt.cells, Pt.slots] at X38 l41 y42 z43 st44 hQ40
  subst l41 y42 z43
  obtain ⟨rfl, N45, e46⟩ := hQ40
  have N47 := Fr.app N14 N45
  refine own_bk (S' := (T34.setTop (mkF m 10 #[rv a, rv mn, .val .null, .val .null, .val .null, rv xs, rv xm] [(.ref mn)]))) st44 ?_
  refine own_bk (S' := (T34.setTop (mkF m 11 #[rv a, rv mn, .val .null, .val .null, .val .null, rv xs, rv xm] []))) (fun t_ kont => XS.pop X38.here hx rfl (hb hby d12_10) rfl rfl kont) ?_
  refine own_bk (S' := (T34.setTop (mkF m 13 #[rv a, rv mn, .val .null, .val .null, .val .null, rv xs, rv xm] [(.ref xs)]))) (fun t_ kont => XS.aload X38.here hx rfl (hb hby d12_11) rfl rfl kont) ?_
  obtain ⟨_, _, ⟨T48, L49, k50, n51⟩, -, X52, ⟨Lc53, hQ54, l55, y56, z57⟩, st58⟩ := Jvm.LawKit.callS X38 hx (y := (⟨"java/util/Set", "copyOf", "(Ljava/util/Collection;)Ljava/util/Set;"⟩ : MethodName)) hown (mvT hZ (hw _ (List.mem_of_getElem? (i := 76) rfl))) (mvT hZ (hw _ (List.mem_of_getElem? (i := 77) rfl))) (mvT hZ (hw _ (List.mem_of_getElem? (i := 61) rfl))) (mvT hZ (hw _ (List.mem_of_getElem? (i := 78) rfl))) (by decide) (backOf (W := 0) (rmSc l Z a0 hw [] xs h17 n0 Z31 (ES.ext O32.2)) hZ (hw _ (List.mem_of_getElem? (i := 78) rfl)) (hw _ (List.mem_of_getElem? (i := 61) rfl)) (by decide) (by decide)) (g := (mkF m 13 #[rv a, rv mn, .val .null, .val .null, .val .null, rv xs, rv xm] [(.ref xs)])) rfl (by rw [hml]; rfl) (argsL := [(.ref xs)]) (rest := []) (lenOf (by decide +kernel : parseMethodDescriptor "(Ljava/util/Collection;)Ljava/util/Set;" = some ⟨[(.object "java/util/Collection")], some (.object "java/util/Set")⟩) rfl) rfl (by show 2 * 0 + _ ≤ _; exact Nat.le_of_eq rfl) (hb hby d12_13) (fun _ _ => ⟨rfl, e46, (by decide : 2 + 0 ≤ _), (by decide : 20 + 0 ≤ _)⟩)
  dsimp only [Pt.U, Pt.locs, Pt.cells, Pt.slots] at X52 l55 y56 z57 st58 hQ54
  subst l55 y56 z57
  obtain ⟨rfl, N59, e60⟩ := hQ54
  have N61 := Fr.app N47 N59
  refine own_bk (S' := (T48.setTop (mkF m 16 #[rv a, rv mn, .val .null, .val .null, .val .null, rv xs, rv xm] [(.ref xs)]))) st58 ?_
  refine own_bk (S' := (T48.setTop (mkF m 18 #[rv a, rv mn, .val .null, .val .null, .val .null, rv xs, rv xm] []))) (fun t_ kont => XS.astore X52.here hx rfl (hb hby d12_16) rfl rfl (l' := #[rv a, rv mn, .val .null, .val .null, .val .null, rv xs, rv xm]) rfl kont) ?_
  refine own_bk (S' := (T48.setTop (mkF m 20 #[rv a, rv mn, .val .null, .val .null, .val .null, rv xs, rv xm] [(.ref xm)]))) (fun t_ kont => XS.aload X52.here hx rfl (hb hby d12_18) rfl rfl kont) ?_
  obtain ⟨_, _, ⟨T62, L63, k64, n65⟩, -, X66, ⟨Lc67, hQ68, l69, y70, z71⟩, st72⟩ := Jvm.LawKit.callS X52 hx (y := (⟨"java/util/Map", "copyOf", "(Ljava/util/Map;)Ljava/util/Map;"⟩ : MethodName)) hown (mvT hZ (hw _ (List.mem_of_getElem? (i := 83) rfl))) (mvT hZ (hw _ (List.mem_of_getElem? (i := 84) rfl))) (mvT hZ (hw _ (List.mem_of_getElem? (i := 67) rfl))) (mvT hZ (hw _ (List.mem_of_getElem? (i := 85) rfl))) (by decide) (backOf (W := 0) (rmMc l Z a0 hw [] xm h17 n0 Z31 (EM.ext O32.2)) hZ (hw _ (List.mem_of_getElem? (i := 85) rfl)) (hw _ (List.mem_of_getElem? (i := 67) rfl)) (by decide) (by decide)) (g := (mkF m 20 #[rv a, rv mn, .val .null, .val .null, .val .null, rv xs, rv xm] [(.ref xm)])) rfl (by rw [hml]; rfl) (argsL := [(.ref xm)]) (rest := []) (lenOf (by decide +kernel : parseMethodDescriptor "(Ljava/util/Map;)Ljava/util/Map;" = some ⟨[(.object "java/util/Map")], some (.object "java/util/Map")⟩) rfl) rfl (by show 2 * 0 + _ ≤ _; exact Nat.le_of_eq rfl) (hb hby d12_20) (fun _ _ => ⟨rfl, e60, (by decide : 2 + 0 ≤ _), (by decide : 20 + 0 ≤ _)⟩)
  dsimp only [Pt.U, Pt.locs, Pt.cells, Pt.slots] at X66 l69 y70 z71 st72 hQ68
  subst l69 y70 z71
  obtain ⟨rfl, N73, e74⟩ := hQ68
  have N75 := Fr.app N61 N73
  refine own_bk (S' := (T62.setTop (mkF m 23 #[rv a, rv mn, .val .null, .val .null, .val .null, rv xs, rv xm] [(.ref xm)]))) st72 ?_
  refine own_bk (S' := (T62.setTop (mkF m 25 #[rv a, rv mn, .val .null, .val .null, .val .null, rv xs, rv xm] []))) (fun t_ kont => XS.astore X66.here hx rfl (hb hby d12_23) rfl rfl (l' := #[rv a, rv mn, .val .null, .val .null, .val .null, rv xs, rv xm]) rfl kont) ?_
  refine own_bk (S' := (T62.setTop (mkF m 26 #[rv a, rv mn, .val .null, .val .null, .val .null, rv xs, rv xm] [(.ref a)]))) (fun t_ kont => XS.aloadN X66.here hx rfl (hb hby d12_25) rfl rfl kont) ?_
  refine own_bk (S' := (T62.setTop (mkF m 27 #[rv a, rv mn, .val .null, .val .null, .val .null, rv xs, rv xm] [(.ref mn), (.ref a)]))) (fun t_ kont => XS.aloadN X66.here hx rfl (hb hby d12_26) rfl rfl kont) ?_
  obtain ⟨T76, h77, X78, e79, W80, st81⟩ := putF X66 hx hZ hown (host := "") (Or.inl (hw _ (List.mem_of_getElem? (i := 88) rfl))) Via.refl e74 F25 E24 (Or.inr ⟨(hw _ (List.mem_of_getElem? (i := 89) rfl)), rfl, hnm⟩) (hw _ (List.mem_of_getElem? (i := 57) rfl)) (ty := (.object "com/example/overweave/overweave/model/Position")) (by decide +kernel) rfl rfl (g := (mkF m 27 #[rv a, rv mn, .val .null, .val .null, .val .null, rv xs, rv xm] [(.ref mn), (.ref a)])) rfl rfl (hb hby d12_27)
  have N82 := Fr.snoc X78 N75 ag
  have E83 := (E24.wr W80)
  have F84 := (F25.same W80)
  have F85 := (F26.other W80 (Or.inr (slot_ne (Or.inr (hw _ (List.mem_of_getElem? (i := 91) rfl))) (Or.inr (hw _ (List.mem_of_getElem? (i := 89) rfl))) (by decide) (show parseFieldDescriptor "Lcom/example/overweave/overweave/model/Position;" = some (.object "com/example/overweave/overweave/model/Position") from by decide +kernel) (show parseFieldDescriptor "Lcom/example/overweave/overweave/model/Position;" = some (.object "com/example/overweave/overweave/model/Position") from by decide +kernel))))
  have F86 := (F27.other W80 (Or.inr (slot_ne (Or.inr (hw _ (List.mem_of_getElem? (i := 93) rfl))) (Or.inr (hw _ (List.mem_of_getElem? (i := 89) rfl))) (by decide) (show parseFieldDescriptor "Lcom/example/overweave/overweave/model/Attribute;" = some (.object "com/example/overweave/overweave/model/Attribute") from by decide +kernel) (show parseFieldDescriptor "Lcom/example/overweave/overweave/model/Position;" = some (.object "com/example/overweave/overweave/model/Position") from by decide +kernel))))
  have F87 := (F28.other W80 (Or.inr (slot_ne (Or.inr (hw _ (List.mem_of_getElem? (i := 95) rfl))) (Or.inr (hw _ (List.mem_of_getElem? (i := 89) rfl))) (by decide) (show parseFieldDescriptor "Lcom/example/overweave/overweave/model/Attribute;" = some (.object "com/example/overweave/overweave/model/Attribute") from by decide +kernel) (show parseFieldDescriptor "Lcom/example/overweave/overweave/model/Position;" = some (.object "com/example/overweave/overweave/model/Position") from by decide +kernel))))
  have F88 := (F29.other W80 (Or.inr (slot_ne (Or.inr (hw _ (List.mem_of_getElem? (i := 97) rfl))) (Or.inr (hw _ (List.mem_of_getElem? (i := 89) rfl))) (by decide) (show parseFieldDescriptor "Ljava/util/Set;" = some (.object "java/util/Set") from by decide +kernel) (show parseFieldDescriptor "Lcom/example/overweave/overweave/model/Position;" = some (.object "com/example/overweave/overweave/model/Position") from by decide +kernel))))
  have F89 := (F30.other W80 (Or.inr (slot_ne (Or.inr (hw _ (List.mem_of_getElem? (i := 99) rfl))) (Or.inr (hw _ (List.mem_of_getElem? (i := 89) rfl))) (by decide) (show parseFieldDescriptor "Ljava/util/Map;" = some (.object "java/util/Map") from by decide +kernel) (show parseFieldDescriptor "Lcom/example/overweave/overweave/model/Position;" = some (.object "com/example/overweave/overweave/model/Position") from by decide +kernel))))
  have Z90 := Nat.le_trans Z31 (Keep.of_wr W80).1
  have hk91 := Nat.le_trans hk23 (Keep.of_wr W80).1
  have O92 := O32.wr W80 ag
  have K93 := K33.wr W80 (Or.inl (List.mem_of_getElem? (i := 0) rfl))
  refine own_bk (S' := (T76.setTop (mkF m 30 #[rv a, rv mn, .val .null, .val .null, .val .null, rv xs, rv xm] []))) st81 ?_
  refine own_bk (S' := (T76.setTop (mkF m 31 #[rv a, rv mn, .val .null, .val .null, .val .null, rv xs, rv xm] [(.ref a)]))) (fun t_ kont => XS.aloadN X78.here hx rfl (hb hby d12_30) rfl rfl kont) ?_
  refine own_bk (S' := (T76.setTop (mkF m 32 #[rv a, rv mn, .val .null, .val .null, .val .null, rv xs, rv xm] [.null, (.ref a)]))) (fun t_ kont => XS.aloadN X78.here hx rfl (hb hby d12_31) rfl rfl kont) ?_
  obtain ⟨T94, h95, X96, e97, W98, st99⟩ := putF X78 hx hZ hown (host := "") (Or.inl (hw _ (List.mem_of_getElem? (i := 90) rfl))) Via.refl e79 F85 E83 (Or.inr ⟨(hw _ (List.mem_of_getElem? (i := 91) rfl)), rfl, hnm⟩) (hw _ (List.mem_of_getElem? (i := 57) rfl)) (ty := (.object "com/example/overweave/overweave/model/Position")) (by decide +kernel) rfl rfl (g := (mkF m 32 #[rv a, rv mn, .val .null, .val .null, .val .null, rv xs, rv xm] [.null, (.ref a)])) rfl rfl (hb hby d12_32)
  have N100 := Fr.snoc X96 N82 ag
  have E101 := (E83.wr W98)
  have F102 := (F84.other W98 (Or.inr (slot_ne (Or.inr (hw _ (List.mem_of_getElem? (i := 89) rfl))) (Or.inr (hw _ (List.mem_of_getElem? (i := 91) rfl))) (by decide) (show parseFieldDescriptor "Lcom/example/overweave/overweave/model/Position;" = some (.object "com/example/overweave/overweave/model/Position") from by decide +kernel) (show parseFieldDescriptor "Lcom/example/overweave/overweave/model/Position;" = some (.object "com/example/overweave/overweave/model/Position") from by decide +kernel))))
  have F103 := (F85.same W98)
  have F104 := (F86.other W98 (Or.inr (slot_ne (Or.inr (hw _ (List.mem_of_getElem? (i := 93) rfl))) (Or.inr (hw _ (List.mem_of_getElem? (i := 91) rfl))) (by decide) (show parseFieldDescriptor "Lcom/example/overweave/overweave/model/Attribute;" = some (.object "com/example/overweave/overweave/model/Attribute") from by decide +kernel) (show parseFieldDescriptor "Lcom/example/overweave/overweave/model/Position;" = some (.object "com/example/overweave/overweave/model/Position") from by decide +kernel))))
  have F105 := (F87.other W98 (Or.inr (slot_ne (Or.inr (hw _ (List.mem_of_getElem? (i := 95) rfl))) (Or.inr (hw _ (List.mem_of_getElem? (i := 91) rfl))) (by decide) (show parseFieldDescriptor "Lcom/example/overweave/overweave/model/Attribute;" = some (.object "com/example/overweave/overweave/model/Attribute") from by decide +kernel) (show parseFieldDescriptor "Lcom/example/overweave/overweave/model/Position;" = some (.object "com/example/overweave/overweave/model/Position") from by decide +kernel))))
  have F106 := (F88.other W98 (Or.inr (slot_ne (Or.inr (hw _ (List.mem_of_getElem? (i := 97) rfl))) (Or.inr (hw _ (List.mem_of_getElem? (i := 91) rfl))) (by decide) (show parseFieldDescriptor "Ljava/util/Set;" = some (.object "java/util/Set") from by decide +kernel) (show parseFieldDescriptor "Lcom/example/overweave/overweave/model/Position;" = some (.object "com/example/overweave/overweave/model/Position") from by decide +kernel))))
  have F107 := (F89.other W98 (Or.inr (slot_ne (Or.inr (hw _ (List.mem_of_getElem? (i := 99) rfl))) (Or.inr (hw _ (List.mem_of_getElem? (i := 91) rfl))) (by decide) (show parseFieldDescriptor "Ljava/util/Map;" = some (.object "java/util/Map") from by decide +kernel) (show parseFieldDescriptor "Lcom/example/overweave/overweave/model/Position;" = some (.object "com/example/overweave/overweave/model/Position") from by decide +kernel))))
  have Z108 := Nat.le_trans Z90 (Keep.of_wr W98).1
  have hk109 := Nat.le_trans hk91 (Keep.of_wr W98).1
  have O110 := O92.wr W98 ag
  have K111 := K93.wr W98 (Or.inl (List.mem_of_getElem? (i := 0) rfl))
  refine own_bk (S' := (T94.setTop (mkF m 35 #[rv a, rv mn, .val .null, .val .null, .val .null, rv xs, rv xm] []))) st99 ?_
  refine own_bk (S' := (T94.setTop (mkF m 36 #[rv a, rv mn, .val .null, .val .null, .val .null, rv xs, rv xm] [(.ref a)]))) (fun t_ kont => XS.aloadN X96.here hx rfl (hb hby d12_35) rfl rfl kont) ?_
  refine own_bk (S' := (T94.setTop (mkF m 37 #[rv a, rv mn, .val .null, .val .null, .val .null, rv xs, rv xm] [.null, (.ref a)]))) (fun t_ kont => XS.aloadN X96.here hx rfl (hb hby d12_36) rfl rfl kont) ?_
  obtain ⟨T112, h113, X114, e115, W116, st117⟩ := putF X96 hx hZ hown (host := "") (Or.inl (hw _ (List.mem_of_getElem? (i := 92) rfl))) Via.refl e97 F104 E101 (Or.inr ⟨(hw _ (List.mem_of_getElem? (i := 93) rfl)), rfl, hnm⟩) (hw _ (List.mem_of_getElem? (i := 57) rfl)) (ty := (.object "com/example/overweave/overweave/model/Attribute")) (by decide +kernel) rfl rfl (g := (mkF m 37 #[rv a, rv mn, .val .null, .val .null, .val .null, rv xs, rv xm] [.null, (.ref a)])) rfl rfl (hb hby d12_37)
  have N118 := Fr.snoc X114 N100 ag
  have E119 := (E101.wr W116)
  have F120 := (F102.other W116 (Or.inr (slot_ne (Or.inr (hw _ (List.mem_of_getElem? (i := 89) rfl))) (Or.inr (hw _ (List.mem_of_getElem? (i := 93) rfl))) (by decide) (show parseFieldDescriptor "Lcom/example/overweave/overweave/model/Position;" = some (.object "com/example/overweave/overweave/model/Position") from by decide +kernel) (show parseFieldDescriptor "Lcom/example/overweave/overweave/model/Attribute;" = some (.object "com/example/overweave/overweave/model/Attribute") from by decide +kernel))))
  have F121 := (F103.other W116 (Or.inr (slot_ne (Or.inr (hw _ (List.mem_of_getElem? (i := 91) rfl))) (Or.inr (hw _ (List.mem_of_getElem? (i := 93) rfl))) (by decide) (show parseFieldDescriptor "Lcom/example/overweave/overweave/model/Position;" = some (.object "com/example/overweave/overweave/model/Position") from by decide +kernel) (show parseFieldDescriptor "Lcom/example/overweave/overweave/model/Attribute;" = some (.object "com/example/overweave/overweave/model/Attribute") from by decide +kernel))))
  have F122 := (F104.same W116)
  have F123 := (F105.other W116 (Or.inr (slot_ne (Or.inr (hw _ (List.mem_of_getElem? (i := 95) rfl))) (Or.inr (hw _ (List.mem_of_getElem? (i := 93) rfl))) (by decide) (show parseFieldDescriptor "Lcom/example/overweave/overweave/model/Attribute;" = some (.object "com/example/overweave/overweave/model/Attribute") from by decide +kernel) (show parseFieldDescriptor "Lcom/example/overweave/overweave/model/Attribute;" = some (.object "com/example/overweave/overweave/model/Attribute") from by decide +kernel))))
  have F124 := (F106.other W116 (Or.inr (slot_ne (Or.inr (hw _ (List.mem_of_getElem? (i := 97) rfl))) (Or.inr (hw _ (List.mem_of_getElem? (i := 93) rfl))) (by decide) (show parseFieldDescriptor "Ljava/util/Set;" = some (.object "java/util/Set") from by decide +kernel) (show parseFieldDescriptor "Lcom/example/overweave/overweave/model/Attribute;" = some (.object "com/example/overweave/overweave/model/Attribute") from by decide +kernel))))
  have F125 := (F107.other W116 (Or.inr (slot_ne (Or.inr (hw _ (List.mem_of_getElem? (i := 99) rfl))) (Or.inr (hw _ (List.mem_of_getElem? (i := 93) rfl))) (by decide) (show parseFieldDescriptor "Ljava/util/Map;" = some (.object "java/util/Map") from by decide +kernel) (show parseFieldDescriptor "Lcom/example/overweave/overweave/model/Attribute;" = some (.object "com/example/overweave/overweave/model/Attribute") from by decide +kernel))))
  have Z126 := Nat.le_trans Z108 (Keep.of_wr W116).1
  have hk127 := Nat.le_trans hk109 (Keep.of_wr W116).1
  have O128 := O110.wr W116 ag
  have K129 := K111.wr W116 (Or.inl (List.mem_of_getElem? (i := 0) rfl))
  refine own_bk (S' := (T112.setTop (mkF m 40 #[rv a, rv mn, .val .null, .val .null, .val .null, rv xs, rv xm] []))) st117 ?_
  refine own_bk (S' := (T112.setTop (mkF m 41 #[rv a, rv mn, .val .null, .val .null, .val .null, rv xs, rv xm] [(.ref a)]))) (fun t_ kont => XS.aloadN X114.here hx rfl (hb hby d12_40) rfl rfl kont) ?_
  refine own_bk (S' := (T112.setTop (mkF m 43 #[rv a, rv mn, .val .null, .val .null, .val .null, rv xs, rv xm] [.null, (.ref a)]))) (fun t_ kont => XS.aload X114.here hx rfl (hb hby d12_41) rfl rfl kont) ?_
  obtain ⟨T130, h131, X132, e133, W134, st135⟩ := putF X114 hx hZ hown (host := "") (Or.inl (hw _ (List.mem_of_getElem? (i := 94) rfl))) Via.refl e115 F123 E119 (Or.inr ⟨(hw _ (List.mem_of_getElem? (i := 95) rfl)), rfl, hnm⟩) (hw _ (List.mem_of_getElem? (i := 57) rfl)) (ty := (.object "com/example/overweave/overweave/model/Attribute")) (by decide +kernel) rfl rfl (g := (mkF m 43 #[rv a, rv mn, .val .null, .val .null, .val .null, rv xs, rv xm] [.null, (.ref a)])) rfl rfl (hb hby d12_43)
  have N136 := Fr.snoc X132 N118 ag
  have E137 := (E119.wr W134)
  have F138 := (F120.other W134 (Or.inr (slot_ne (Or.inr (hw _ (List.mem_of_getElem? (i := 89) rfl))) (Or.inr (hw _ (List.mem_of_getElem? (i := 95) rfl))) (by decide) (show parseFieldDescriptor "Lcom/example/overweave/overweave/model/Position;" = some (.object "com/example/overweave/overweave/model/Position") from by decide +kernel) (show parseFieldDescriptor "Lcom/example/overweave/overweave/model/Attribute;" = some (.object "com/example/overweave/overweave/model/Attribute") from by decide +kernel))))
  have F139 := (F121.other W134 (Or.inr (slot_ne (Or.inr (hw _ (List.mem_of_getElem? (i := 91) rfl))) (Or.inr (hw _ (List.mem_of_getElem? (i := 95) rfl))) (by decide) (show parseFieldDescriptor "Lcom/example/overweave/overweave/model/Position;" = some (.object "com/example/overweave/overweave/model/Position") from by decide +kernel) (show parseFieldDescriptor "Lcom/example/overweave/overweave/model/Attribute;" = some (.object "com/example/overweave/overweave/model/Attribute") from by decide +kernel))))
  have F140 := (F122.other W134 (Or.inr (slot_ne (Or.inr (hw _ (List.mem_of_getElem? (i := 93) rfl))) (Or.inr (hw _ (List.mem_of_getElem? (i := 95) rfl))) (by decide) (show parseFieldDescriptor "Lcom/example/overweave/overweave/model/Attribute;" = some (.object "com/example/overweave/overweave/model/Attribute") from by decide +kernel) (show parseFieldDescriptor "Lcom/example/overweave/overweave/model/Attribute;" = some (.object "com/example/overweave/overweave/model/Attribute") from by decide +kernel))))
  have F141 := (F123.same W134)
  have F142 := (F124.other W134 (Or.inr (slot_ne (Or.inr (hw _ (List.mem_of_getElem? (i := 97) rfl))) (Or.inr (hw _ (List.mem_of_getElem? (i := 95) rfl))) (by decide) (show parseFieldDescriptor "Ljava/util/Set;" = some (.object "java/util/Set") from by decide +kernel) (show parseFieldDescriptor "Lcom/example/overweave/overweave/model/Attribute;" = some (.object "com/example/overweave/overweave/model/Attribute") from by decide +kernel))))
  have F143 := (F125.other W134 (Or.inr (slot_ne (Or.inr (hw _ (List.mem_of_getElem? (i := 99) rfl))) (Or.inr (hw _ (List.mem_of_getElem? (i := 95) rfl))) (by decide) (show parseFieldDescriptor "Ljava/util/Map;" = some (.object "java/util/Map") from by decide +kernel) (show parseFieldDescriptor "Lcom/example/overweave/overweave/model/Attribute;" = some (.object "com/example/overweave/overweave/model/Attribute") from by decide +kernel))))
  have Z144 := Nat.le_trans Z126 (Keep.of_wr W134).1
  have hk145 := Nat.le_trans hk127 (Keep.of_wr W134).1
  have O146 := O128.wr W134 ag
  have K147 := K129.wr W134 (Or.inl (List.mem_of_getElem? (i := 0) rfl))
  refine own_bk (S' := (T130.setTop (mkF m 46 #[rv a, rv mn, .val .null, .val .null, .val .null, rv xs, rv xm] []))) st135 ?_
  refine own_bk (S' := (T130.setTop (mkF m 47 #[rv a, rv mn, .val .null, .val .null, .val .null, rv xs, rv xm] [(.ref a)]))) (fun t_ kont => XS.aloadN X132.here hx rfl (hb hby d12_46) rfl rfl kont) ?_
  refine own_bk (S' := (T130.setTop (mkF m 49 #[rv a, rv mn, .val .null, .val .null, .val .null, rv xs, rv xm] [(.ref xs), (.ref a)]))) (fun t_ kont => XS.aload X132.here hx rfl (hb hby d12_47) rfl rfl kont) ?_
  obtain ⟨T148, h149, X150, e151, W152, st153⟩ := putF X132 hx hZ hown (host := "") (Or.inl (hw _ (List.mem_of_getElem? (i := 96) rfl))) Via.refl e133 F142 E137 (Or.inr ⟨(hw _ (List.mem_of_getElem? (i := 97) rfl)), rfl, hnm⟩) (hw _ (List.mem_of_getElem? (i := 57) rfl)) (ty := (.object "java/util/Set")) (by decide +kernel) rfl rfl (g := (mkF m 49 #[rv a, rv mn, .val .null, .val .null, .val .null, rv xs, rv xm] [(.ref xs), (.ref a)])) rfl rfl (hb hby d12_49)
  have N154 := Fr.snoc X150 N136 ag
  have E155 := (E137.wr W152)
  have F156 := (F138.other W152 (Or.inr (slot_ne (Or.inr (hw _ (List.mem_of_getElem? (i := 89) rfl))) (Or.inr (hw _ (List.mem_of_getElem? (i := 97) rfl))) (by decide) (show parseFieldDescriptor "Lcom/example/overweave/overweave/model/Position;" = some (.object "com/example/overweave/overweave/model/Position") from by decide +kernel) (show parseFieldDescriptor "Ljava/util/Set;" = some (.object "java/util/Set") from by decide +kernel))))
  have F157 := (F139.other W152 (Or.inr (slot_ne (Or.inr (hw _ (List.mem_of_getElem? (i := 91) rfl))) (Or.inr (hw _ (List.mem_of_getElem? (i := 97) rfl))) (by decide) (show parseFieldDescriptor "Lcom/example/overweave/overweave/model/Position;" = some (.object "com/example/overweave/overweave/model/Position") from by decide +kernel) (show parseFieldDescriptor "Ljava/util/Set;" = some (.object "java/util/Set") from by decide +kernel))))
  have F158 := (F140.other W152 (Or.inr (slot_ne (Or.inr (hw _ (List.mem_of_getElem? (i := 93) rfl))) (Or.inr (hw _ (List.mem_of_getElem? (i := 97) rfl))) (by decide) (show parseFieldDescriptor "Lcom/example/overweave/overweave/model/Attribute;" = some (.object "com/example/overweave/overweave/model/Attribute") from by decide +kernel) (show parseFieldDescriptor "Ljava/util/Set;" = some (.object "java/util/Set") from by decide +kernel))))
  have F159 := (F141.other W152 (Or.inr (slot_ne (Or.inr (hw _ (List.mem_of_getElem? (i := 95) rfl))) (Or.inr (hw _ (List.mem_of_getElem? (i := 97) rfl))) (by decide) (show parseFieldDescriptor "Lcom/example/overweave/overweave/model/Attribute;" = some (.object "com/example/overweave/overweave/model/Attribute") from by decide +kernel) (show parseFieldDescriptor "Ljava/util/Set;" = some (.object "java/util/Set") from by decide +kernel))))
  have F160 := (F142.same W152)
  have F161 := (F143.other W152 (Or.inr (slot_ne (Or.inr (hw _ (List.mem_of_getElem? (i := 99) rfl))) (Or.inr (hw _ (List.mem_of_getElem? (i := 97) rfl))) (by decide) (show parseFieldDescriptor "Ljava/util/Map;" = some (.object "java/util/Map") from by decide +kernel) (show parseFieldDescriptor "Ljava/util/Set;" = some (.object "java/util/Set") from by decide +kernel))))
  have Z162 := Nat.le_trans Z144 (Keep.of_wr W152).1
  have hk163 := Nat.le_trans hk145 (Keep.of_wr W152).1
  have O164 := O146.wr W152 ag
  have K165 := K147.wr W152 (Or.inl (List.mem_of_getElem? (i := 0) rfl))
  refine own_bk (S' := (T148.setTop (mkF m 52 #[rv a, rv mn, .val .null, .val .null, .val .null, rv xs, rv xm] []))) st153 ?_
  refine own_bk (S' := (T148.setTop (mkF m 53 #[rv a, rv mn, .val .null, .val .null, .val .null, rv xs, rv xm] [(.ref a)]))) (fun t_ kont => XS.aloadN X150.here hx rfl (hb hby d12_52) rfl rfl kont) ?_
  refine own_bk (S' := (T148.setTop (mkF m 55 #[rv a, rv mn, .val .null, .val .null, .val .null, rv xs, rv xm] [(.ref xm), (.ref a)]))) (fun t_ kont => XS.aload X150.here hx rfl (hb hby d12_53) rfl rfl kont) ?_
  obtain ⟨T166, h167, X168, e169, W170, st171⟩ := putF X150 hx hZ hown (host := "") (Or.inl (hw _ (List.mem_of_getElem? (i := 98) rfl))) Via.refl e151 F161 E155 (Or.inr ⟨(hw _ (List.mem_of_getElem? (i := 99) rfl)), rfl, hnm⟩) (hw _ (List.mem_of_getElem? (i := 57) rfl)) (ty := (.object "java/util/Map")) (by decide +kernel) rfl rfl (g := (mkF m 55 #[rv a, rv mn, .val .null, .val .null, .val .null, rv xs, rv xm] [(.ref xm), (.ref a)])) rfl rfl (hb hby d12_55)
  have N172 := Fr.snoc X168 N154 ag
  have E173 := (E155.wr W170)
  have F174 := (F156.other W170 (Or.inr (slot_ne (Or.inr (hw _ (List.mem_of_getElem? (i := 89) rfl))) (Or.inr (hw _ (List.mem_of_getElem? (i := 99) rfl))) (by decide) (show parseFieldDescriptor "Lcom/example/overweave/overweave/model/Position;" = some (.object "com/example/overweave/overweave/model/Position") from by decide +kernel) (show parseFieldDescriptor "Ljava/util/Map;" = some (.object "java/util/Map") from by decide +kernel))))
  have F175 := (F157.other W170 (Or.inr (slot_ne (Or.inr (hw _ (List.mem_of_getElem? (i := 91) rfl))) (Or.inr (hw _ (List.mem_of_getElem? (i := 99) rfl))) (by decide) (show parseFieldDescriptor "Lcom/example/overweave/overweave/model/Position;" = some (.object "com/example/overweave/overweave/model/Position") from by decide +kernel) (show parseFieldDescriptor "Ljava/util/Map;" = some (.object "java/util/Map") from by decide +kernel))))
  have F176 := (F158.other W170 (Or.inr (slot_ne (Or.inr (hw _ (List.mem_of_getElem? (i := 93) rfl))) (Or.inr (hw _ (List.mem_of_getElem? (i := 99) rfl))) (by decide) (show parseFieldDescriptor "Lcom/example/overweave/overweave/model/Attribute;" = some (.object "com/example/overweave/overweave/model/Attribute") from by decide +kernel) (show parseFieldDescriptor "Ljava/util/Map;" = some (.object "java/util/Map") from by decide +kernel))))
  have F177 := (F159.other W170 (Or.inr (slot_ne (Or.inr (hw _ (List.mem_of_getElem? (i := 95) rfl))) (Or.inr (hw _ (List.mem_of_getElem? (i := 99) rfl))) (by decide) (show parseFieldDescriptor "Lcom/example/overweave/overweave/model/Attribute;" = some (.object "com/example/overweave/overweave/model/Attribute") from by decide +kernel) (show parseFieldDescriptor "Ljava/util/Map;" = some (.object "java/util/Map") from by decide +kernel))))
  have F178 := (F160.other W170 (Or.inr (slot_ne (Or.inr (hw _ (List.mem_of_getElem? (i := 97) rfl))) (Or.inr (hw _ (List.mem_of_getElem? (i := 99) rfl))) (by decide) (show parseFieldDescriptor "Ljava/util/Set;" = some (.object "java/util/Set") from by decide +kernel) (show parseFieldDescriptor "Ljava/util/Map;" = some (.object "java/util/Map") from by decide +kernel))))
  have F179 := (F161.same W170)
  have Z180 := Nat.le_trans Z162 (Keep.of_wr W170).1
  have hk181 := Nat.le_trans hk163 (Keep.of_wr W170).1
  have O182 := O164.wr W170 ag
  have K183 := K165.wr W170 (Or.inl (List.mem_of_getElem? (i := 0) rfl))
  refine own_bk (S' := (T166.setTop (mkF m 58 #[rv a, rv mn, .val .null, .val .null, .val .null, rv xs, rv xm] []))) st171 ?_
  exact own_retVW hS X168 (by rw [show T166.heap = h167 from e169]; exact hk181) hx hlk Bd.returns (hb hby d12_58) (by rw [e169]; exact ⟨rfl, N172, O182, K183, F174, F175⟩) (by decide) (by decide)
theorem ef_rmAppR (m : MethodId) (x0 : Addr) (x1 : Addr) (x2 : Addr) (x5 : Addr) (x6 : Addr) : entryFrame m #[(.ref x0), (.ref x1), (.ref x2), .null, .null, (.ref x5), (.ref x6)] 7 = mkF m 0 #[.val (.ref x0), .val (.ref x1), .val (.ref x2), .val .null, .val .null, .val (.ref x5), .val (.ref x6)] [] := by first | (simp [entryFrame, mkF, argsToLocals, Value.category, maxLocals]; done) | rfl
def Q_rmAppR (Z : State) (a mn u xs xm : Addr) (h0 : Heap) (n0 : Nat) (v : Option Value) (h : Heap) (L : List Loc) : Prop := v = none ∧ Fr n0 L ∧ Old Z n0 h ∧ Keep h0 h [a] ∧ Fld Z h a "com/example/overweave/overweave/merge/SdkLevels$App" "main" "Lcom/example/overweave/overweave/model/Position;" (.ref mn) ∧ Fld Z h a "com/example/overweave/overweave/merge/SdkLevels$App" "usesSdk" "Lcom/example/overweave/overweave/model/Position;" (.ref u)
set_option maxRecDepth 65536 in
set_option maxHeartbeats 40000000 in
theorem rmAppR (l : Launch) (Z : State) (a0 : Array Value) (hw : ∀ d ∈ tables_1, d.before a0 Z = true) (ws : List Jvm.Cond) (a mn u xs xm : Addr) (h0 : Heap) (n0 : Nat) (Z0 : n0 ≤ h0.size) (O : Old Z n0 h0) (ES : Exa Z Z.heap xs "java/util/ImmutableCollections$SetN") (EM : Exa Z Z.heap xm "java/util/ImmutableCollections$MapN") (E : Exa Z h0 a "com/example/overweave/overweave/merge/SdkLevels$App") (ag : n0 ≤ a) (F0 : Fld Z h0 a "com/example/overweave/overweave/merge/SdkLevels$App" "main" "Lcom/example/overweave/overweave/model/Position;" .null) (F1 : Fld Z h0 a "com/example/overweave/overweave/merge/SdkLevels$App" "usesSdk" "Lcom/example/overweave/overweave/model/Position;" .null) (F2 : Fld Z h0 a "com/example/overweave/overweave/merge/SdkLevels$App" "minAttribute" "Lcom/example/overweave/overweave/model/Attribute;" .null) (F3 : Fld Z h0 a "com/example/overweave/overweave/merge/SdkLevels$App" "targetAttribute" "Lcom/example/overweave/overweave/model/Attribute;" .null) (F4 : Fld Z h0 a "com/example/overweave/overweave/merge/SdkLevels$App" "overriding" "Ljava/util/Set;" .null) (F5 : Fld Z h0 a "com/example/overweave/overweave/merge/SdkLevels$App" "properties" "Ljava/util/Map;" .null) :
    MetFree l (⟨"com/example/overweave/overweave/merge/SdkLevels$App", "<init>", "(Lcom/example/overweave/overweave/model/Position;Lcom/example/overweave/overweave/model/Position;Lcom/example/overweave/overweave/model/Attribute;Lcom/example/overweave/overweave/model/Attribute;Ljava/util/Set;Ljava/util/Map;)V"⟩ : MethodName) (head1 (Jvm.Cond.code (⟨"com/example/overweave/overweave/merge/SdkLevels$App", "<init>", "(Lcom/example/overweave/overweave/model/Position;Lcom/example/overweave/overweave/model/Position;Lcom/example/overweave/overweave/model/Attribute;Lcom/example/overweave/overweave/model/Attribute;Ljava/util/Set;Ljava/util/Map;)V"⟩ : MethodName) prog_39_method_1_code 7 none :: ws) ({ frames := 2, cells := 2, slots := 20, locals := 60 } : Room)) (fun as_ U_ => as_ = #[(.ref a), (.ref mn), (.ref u), .null, .null, (.ref xs), (.ref xm)] ∧ Z.Warmed39 U_.vm ∧ U_.heap = h0) (fun _ _ _ _ _ => True) (fun _ U_ o_ U2_ => ∃ v_ L_, o_ = .returned v_ ∧ (Q_rmAppR Z a mn u xs xm h0 n0) v_ U2_.heap L_ ∧ ReturnedEndW U_ o_ U2_ L_ ({ frames := 2, cells := 2, slots := 20, locals := 60 } : Room).cells ({ frames := 2, cells := 2, slots := 20, locals := 60 } : Room).slots) := by
  refine MetFree.of_bodySF (plainFor_of_name (by first | (simp [plainName, overriddenIn]; done) | decide +kernel : plainName "com/example/overweave/overweave/merge/SdkLevels$App" = true)) hisR ?_
  intro p e s m args below meth c s₁ Bd hml0 hP hK
  obtain ⟨rfl, hZ, hh⟩ := hP
  have hx := Bd.exec
  have hby := Bd.bytes
  have hlk := Bd.notSynchronized
  have hml : c.maxLocals = 7 := hml0
  have hown : s.vm.findClass "com/example/overweave/overweave/merge/SdkLevels$App" = some m.cls := findClass_of_methodNamed Bd.named
  have hnm := (name_of_methodNamed Bd.named Bd.method).1
  have X0 : Stand p l e ({ frames := 2, cells := 2, slots := 20, locals := 60 } : Room) (s.setVm s.vm) m #[(.ref a), (.ref mn), (.ref u), .null, .null, (.ref xs), (.ref xm)] below meth c s₁ [] 0 0 := Stand.of_body Bd
  have hS : s.Since s.vm 0 := (State.WarmedH.refl s).since 0
  have hk0 : 0 ≤ h0.size := Nat.zero_le _
  have hwS : ∀ d ∈ Bundle.stringAtoms, d.before a0 Z = true := fun d hd => hw d ((by decide +kernel : ∀ d ∈ Bundle.stringAtoms, d ∈ tables_1) d hd)
  have e0 : s₁.heap = h0 := by rw [← hh, Bd.state]; rfl
  have N0 := Fr.nil n0
  show own_Go p e below (own_RW s below (Q_rmAppR Z a mn u xs xm h0 n0) ({ frames := 2, cells := 2, slots := 20, locals := 60 } : Room).cells ({ frames := 2, cells := 2, slots := 20, locals := 60 } : Room).slots) (s₁.setTop (entryFrame m #[(.ref a), (.ref mn), (.ref u), .null, .null, (.ref xs), (.ref xm)] 7))
  refine own_bk (S' := (s₁.setTop (mkF m 0 #[rv a, rv mn, rv u, .val .null, .val .null, rv xs, rv xm] []))) (fun t_ kont => castTop (ef_rmAppR m (a) (mn) (u) (xs) (xm)) kont) ?_
  refine own_bk (S' := (s₁.setTop (mkF m 1 #[rv a, rv mn, rv u, .val .null, .val .null, rv xs, rv xm] [(.ref a)]))) (fun t_ kont => XS.aloadN X0.here hx rfl (hb hby d12_0) rfl rfl kont) ?_
  obtain ⟨_, _, ⟨T1, L2, k3, n4⟩, -, X5, ⟨Lc6, hQ7, l8, y9, z10⟩, st11⟩ := X0.specialBack hx (y := (⟨"java/lang/Record", "<init>", "()V"⟩ : MethodName)) rfl hown (mvT hZ (hw _ (List.mem_of_getElem? (i := 73) rfl))) (mvT hZ (hw _ (List.mem_of_getElem? (i := 38) rfl))) (mvT hZ (hw _ (List.mem_of_getElem? (i := 41) rfl))) (by decide) (backOf (W := 0) (rmRec l Z a0 hw [] a h0 n0 Z0) hZ (hw _ (List.mem_of_getElem? (i := 41) rfl)) (hw _ (List.mem_of_getElem? (i := 40) rfl)) (by decide) (by decide)) (g := (mkF m 1 #[rv a, rv mn, rv u, .val .null, .val .null, rv xs, rv xm] [(.ref a)])) rfl (by rw [hml]; rfl) (Steps.refl _) (a := a) (argsL := []) (rest := []) (lenOf (by decide +kernel : parseMethodDescriptor "()V" = some ⟨[], none⟩) rfl) rfl (by show 2 * 0 + _ ≤ _; exact Nat.le_of_eq rfl) (hb hby d12_1) (fun _ _ => ⟨rfl, e0, (by decide : 0 + 0 ≤ _), (by decide : 0 + 0 ≤ _)⟩)
  dsimp only [Pt.U, Pt.locs, Pt.cells, Pt.slots] at X5 l8 y9 z10 st11 hQ7
  subst l8 y9 z10
  obtain ⟨rfl, N12, e13⟩ := hQ7
  have N14 := Fr.app N0 N12
  refine own_tr (S' := (T1.setTop (mkF m 4 #[rv a, rv mn, rv u, .val .null, .val .null, rv xs, rv xm] []))) st11 ?_
  refine own_bk (S' := (T1.setTop (mkF m 5 #[rv a, rv mn, rv u, .val .null, .val .null, rv xs, rv xm] [(.ref mn)]))) (fun t_ kont => XS.aloadN X5.here hx rfl (hb hby d12_4) rfl rfl kont) ?_
  obtain ⟨a15, T16, h17, k18, X19, e20, E21, hS, hk23, hZ, hown, st22⟩ := ldcS X5 hx hZ hown (hw _ (List.mem_of_getElem? (i := 74) rfl)) hwS e13 hS hk0 (g := (mkF m 5 #[rv a, rv mn, rv u, .val .null, .val .null, rv xs, rv xm] [(.ref mn)])) rfl (hb hby d12_5) (n := 16) (by decide +kernel) (by decide) (by decide) (by decide)
  have E24 := (E.ext E21)
  have F25 := (F0.ext E21)
  have F26 := (F1.ext E21)
  have F27 := (F2.ext E21)
  have F28 := (F3.ext E21)
  have F29 := (F4.ext E21)
  have F30 := (F5.ext E21)
  have Z31 := Nat.le_trans Z0 E21.1
  have O32 := O.ext E21
  have K33 := (Keep.refl h0 [a]).ext E21
  refine own_bk (S' := (T16.setTop (mkF m 7 #[rv a, rv mn, rv u, .val .null, .val .null, rv xs, rv xm] [(.ref a15), (.ref mn)]))) st22 ?_
  obtain ⟨_, _, ⟨T34, L35, k36, n37⟩, -, X38, ⟨Lc39, hQ40, l41, y42, z43⟩, st44⟩ := Jvm.LawKit.callS X19 hx (y := (⟨"java/util/Objects", "requireNonNull", "(Ljava/lang/Object;Ljava/lang/String;)Ljava/lang/Object;"⟩ : MethodName)) hown (mvT hZ (hw _ (List.mem_of_getElem? (i := 75) rfl))) (mvT hZ (hw _ (List.mem_of_getElem? (i := 47) rfl))) (mvT hZ (hw _ (List.mem_of_getElem? (i := 48) rfl))) (mvT hZ (hw _ (List.mem_of_getElem? (i := 49) rfl))) (by decide) (backOf (W := 0) (rmNN l Z a0 hw [] mn a15 h17 n0 Z31) hZ (hw _ (List.mem_of_getElem? (i := 49) rfl)) (hw _ (List.mem_of_getElem? (i := 48) rfl)) (by decide) (by decide)) (g := (mkF m 7 #[rv a, rv mn, rv u, .val .null, .val .null, rv xs, rv xm] [(.ref a15), (.ref mn)])) rfl (by rw [hml]; rfl) (argsL := [(.ref mn), (.ref a15)]) (rest := []) (lenOf (by decide +kernel : parseMethodDescriptor "(Ljava/lang/Object;Ljava/lang/String;)Ljava/lang/Object;" = some ⟨[(.object "java/lang/Object"), (.object "java/lang/String")], some (.object "java/lang/Object")⟩) rfl) rfl (by show 2 * 0 + _ ≤ _; exact Nat.le_of_eq rfl) (hb hby d12_7) (fun _ _ => ⟨rfl, e20, (by decide : 2 + 0 ≤ _), (by decide : 20 + 0 ≤ _)⟩)
  dsimp only [Pt.U, Pt.locs, Pt.cells, Pt.slots] at X38 l41 y42 z43 st44 hQ40
  subst l41 y42 z43
  obtain ⟨rfl, N45, e46⟩ := hQ40
  have N47 := Fr.app N14 N45
  refine own_bk (S' := (T34.setTop (mkF m 10 #[rv a, rv mn, rv u, .val .null, .val .null, rv xs, rv xm] [(.ref mn)]))) st44 ?_
  refine own_bk (S' := (T34.setTop (mkF m 11 #[rv a, rv mn, rv u, .val .null, .val .null, rv xs, rv xm] []))) (fun t_ kont => XS.pop X38.here hx rfl (hb hby d12_10) rfl rfl kont) ?_
  refine own_bk (S' := (T34.setTop (mkF m 13 #[rv a, rv mn, rv u, .val .null, .val .null, rv xs, rv xm] [(.ref xs)]))) (fun t_ kont => XS.aload X38.here hx rfl (hb hby d12_11) rfl rfl kont) ?_
  obtain ⟨_, _, ⟨T48, L49, k50, n51⟩, -, X52, ⟨Lc53, hQ54, l55, y56, z57⟩, st58⟩ := Jvm.LawKit.callS X38 hx (y := (⟨"java/util/Set", "copyOf", "(Ljava/util/Collection;)Ljava/util/Set;"⟩ : MethodName)) hown (mvT hZ (hw _ (List.mem_of_getElem? (i := 76) rfl))) (mvT hZ (hw _ (List.mem_of_getElem? (i := 77) rfl))) (mvT hZ (hw _ (List.mem_of_getElem? (i := 61) rfl))) (mvT hZ (hw _ (List.mem_of_getElem? (i := 78) rfl))) (by decide) (backOf (W := 0) (rmSc l Z a0 hw [] xs h17 n0 Z31 (ES.ext O32.2)) hZ (hw _ (List.mem_of_getElem? (i := 78) rfl)) (hw _ (List.mem_of_getElem? (i := 61) rfl)) (by decide) (by decide)) (g := (mkF m 13 #[rv a, rv mn, rv u, .val .null, .val .null, rv xs, rv xm] [(.ref xs)])) rfl (by rw [hml]; rfl) (argsL := [(.ref xs)]) (rest := []) (lenOf (by decide +kernel : parseMethodDescriptor "(Ljava/util/Collection;)Ljava/util/Set;" = some ⟨[(.object "java/util/Collection")], some (.object "java/util/Set")⟩) rfl) rfl (by show 2 * 0 + _ ≤ _; exact Nat.le_of_eq rfl) (hb hby d12_13) (fun _ _ => ⟨rfl, e46, (by decide : 2 + 0 ≤ _), (by decide : 20 + 0 ≤ _)⟩)
  dsimp only [Pt.U, Pt.locs, Pt.cells, Pt.slots] at X52 l55 y56 z57 st58 hQ54
  subst l55 y56 z57
  obtain ⟨rfl, N59, e60⟩ := hQ54
  have N61 := Fr.app N47 N59
  refine own_bk (S' := (T48.setTop (mkF m 16 #[rv a, rv mn, rv u, .val .null, .val .null, rv xs, rv xm] [(.ref xs)]))) st58 ?_
  refine own_bk (S' := (T48.setTop (mkF m 18 #[rv a, rv mn, rv u, .val .null, .val .null, rv xs, rv xm] []))) (fun t_ kont => XS.astore X52.here hx rfl (hb hby d12_16) rfl rfl (l' := #[rv a, rv mn, rv u, .val .null, .val .null, rv xs, rv xm]) rfl kont) ?_
  refine own_bk (S' := (T48.setTop (mkF m 20 #[rv a, rv mn, rv u, .val .null, .val .null, rv xs, rv xm] [(.ref xm)]))) (fun t_ kont => XS.aload X52.here hx rfl (hb hby d12_18) rfl rfl kont) ?_
  obtain ⟨_, _, ⟨T62, L63, k64, n65⟩, -, X66, ⟨Lc67, hQ68, l69, y70, z71⟩, st72⟩ := Jvm.LawKit.callS X52 hx (y := (⟨"java/util/Map", "copyOf", "(Ljava/util/Map;)Ljava/util/Map;"⟩ : MethodName)) hown (mvT hZ (hw _ (List.mem_of_getElem? (i := 83) rfl))) (mvT hZ (hw _ (List.mem_of_getElem? (i := 84) rfl))) (mvT hZ (hw _ (List.mem_of_getElem? (i := 67) rfl))) (mvT hZ (hw _ (List.mem_of_getElem? (i := 85) rfl))) (by decide) (backOf (W := 0) (rmMc l Z a0 hw [] xm h17 n0 Z31 (EM.ext O32.2)) hZ (hw _ (List.mem_of_getElem? (i := 85) rfl)) (hw _ (List.mem_of_getElem? (i := 67) rfl)) (by decide) (by decide)) (g := (mkF m 20 #[rv a, rv mn, rv u, .val .null, .val .null, rv xs, rv xm] [(.ref xm)])) rfl (by rw [hml]; rfl) (argsL := [(.ref xm)]) (rest := []) (lenOf (by decide +kernel : parseMethodDescriptor "(Ljava/util/Map;)Ljava/util/Map;" = some ⟨[(.object "java/util/Map")], some (.object "java/util/Map")⟩) rfl) rfl (by show 2 * 0 + _ ≤ _; exact Nat.le_of_eq rfl) (hb hby d12_20) (fun _ _ => ⟨rfl, e60, (by decide : 2 + 0 ≤ _), (by decide : 20 + 0 ≤ _)⟩)
  dsimp only [Pt.U, Pt.locs, Pt.cells, Pt.slots] at X66 l69 y70 z71 st72 hQ68
  subst l69 y70 z71
  obtain ⟨rfl, N73, e74⟩ := hQ68
  have N75 := Fr.app N61 N73
  refine own_bk (S' := (T62.setTop (mkF m 23 #[rv a, rv mn, rv u, .val .null, .val .null, rv xs, rv xm] [(.ref xm)]))) st72 ?_
  refine own_bk (S' := (T62.setTop (mkF m 25 #[rv a, rv mn, rv u, .val .null, .val .null, rv xs, rv xm] []))) (fun t_ kont => XS.astore X66.here hx rfl (hb hby d12_23) rfl rfl (l' := #[rv a, rv mn, rv u, .val .null, .val .null, rv xs, rv xm]) rfl kont) ?_
  refine own_bk (S' := (T62.setTop (mkF m 26 #[rv a, rv mn, rv u, .val .null, .val .null, rv xs, rv xm] [(.ref a)]))) (fun t_ kont => XS.aloadN X66.here hx rfl (hb hby d12_25) rfl rfl kont) ?_
  refine own_bk (S' := (T62.setTop (mkF m 27 #[rv a, rv mn, rv u, .val .null, .val .null, rv xs, rv xm] [(.ref mn), (.ref a)]))) (fun t_ kont => XS.aloadN X66.here hx rfl (hb hby d12_26) rfl rfl kont) ?_
  obtain ⟨T76, h77, X78, e79, W80, st81⟩ := putF X66 hx hZ hown (host := "") (Or.inl (hw _ (List.mem_of_getElem? (i := 88) rfl))) Via.refl e74 F25 E24 (Or.inr ⟨(hw _ (List.mem_of_getElem? (i := 89) rfl)), rfl, hnm⟩) (hw _ (List.mem_of_getElem? (i := 57) rfl)) (ty := (.object "com/example/overweave/overweave/model/Position")) (by decide +kernel) rfl rfl (g := (mkF m 27 #[rv a, rv mn, rv u, .val .null, .val .null, rv xs, rv xm] [(.ref mn), (.ref a)])) rfl rfl (hb hby d12_27)
  have N82 := Fr.snoc X78 N75 ag
  have E83 := (E24.wr W80)
  have F84 := (F25.same W80)
  have F85 := (F26.other W80 (Or.inr (slot_ne (Or.inr (hw _ (List.mem_of_getElem? (i := 91) rfl))) (Or.inr (hw _ (List.mem_of_getElem? (i := 89) rfl))) (by decide) (show parseFieldDescriptor "Lcom/example/overweave/overweave/model/Position;" = some (.object "com/example/overweave/overweave/model/Position") from by decide +kernel) (show parseFieldDescriptor "Lcom/example/overweave/overweave/model/Position;" = some (.object "com/example/overweave/overweave/model/Position") from by decide +kernel))))
  have F86 := (F27.other W80 (Or.inr (slot_ne (Or.inr (hw _ (List.mem_of_getElem? (i := 93) rfl))) (Or.inr (hw _ (List.mem_of_getElem? (i := 89) rfl))) (by decide) (show parseFieldDescriptor "Lcom/example/overweave/overweave/model/Attribute;" = some (.object "com/example/overweave/overweave/model/Attribute") from by decide +kernel) (show parseFieldDescriptor "Lcom/example/overweave/overweave/model/Position;" = some (.object "com/example/overweave/overweave/model/Position") from by decide +kernel))))
  have F87 := (F28.other W80 (Or.inr (slot_ne (Or.inr (hw _ (List.mem_of_getElem? (i := 95) rfl))) (Or.inr (hw _ (List.mem_of_getElem? (i := 89) rfl))) (by decide) (show parseFieldDescriptor "Lcom/example/overweave/overweave/model/Attribute;" = some (.object "com/example/overweave/overweave/model/Attribute") from by decide +kernel) (show parseFieldDescriptor "Lcom/example/overweave/overweave/model/Position;" = some (.object "com/example/overweave/overweave/model/Position") from by decide +kernel))))
  have F88 := (F29.other W80 (Or.inr (slot_ne (Or.inr (hw _ (List.mem_of_getElem? (i := 97) rfl))) (Or.inr (hw _ (List.mem_of_getElem? (i := 89) rfl))) (by decide) (show parseFieldDescriptor "Ljava/util/Set;" = some (.object "java/util/Set") from by decide +kernel) (show parseFieldDescriptor "Lcom/example/overweave/overweave/model/Position;" = some (.object "com/example/overweave/overweave/model/Position") from by decide +kernel))))
  have F89 := (F30.other W80 (Or.inr (slot_ne (Or.inr (hw _ (List.mem_of_getElem? (i := 99) rfl))) (Or.inr (hw _ (List.mem_of_getElem? (i := 89) rfl))) (by decide) (show parseFieldDescriptor "Ljava/util/Map;" = some (.object "java/util/Map") from by decide +kernel) (show parseFieldDescriptor "Lcom/example/overweave/overweave/model/Position;" = some (.object "com/example/overweave/overweave/model/Position") from by decide +kernel))))
  have Z90 := Nat.le_trans Z31 (Keep.of_wr W80).1
  have hk91 := Nat.le_trans hk23 (Keep.of_wr W80).1
  have O92 := O32.wr W80 ag
  have K93 := K33.wr W80 (Or.inl (List.mem_of_getElem? (i := 0) rfl))
  refine own_bk (S' := (T76.setTop (mkF m 30 #[rv a, rv mn, rv u, .val .null, .val .null, rv xs, rv xm] []))) st81 ?_
  refine own_bk (S' := (T76.setTop (mkF m 31 #[rv a, rv mn, rv u, .val .null, .val .null, rv xs, rv xm] [(.ref a)]))) (fun t_ kont => XS.aloadN X78.here hx rfl (hb hby d12_30) rfl rfl kont) ?_
  refine own_bk (S' := (T76.setTop (mkF m 32 #[rv a, rv mn, rv u, .val .null, .val .null, rv xs, rv xm] [(.ref u), (.ref a)]))) (fun t_ kont => XS.aloadN X78.here hx rfl (hb hby d12_31) rfl rfl kont) ?_
  obtain ⟨T94, h95, X96, e97, W98, st99⟩ := putF X78 hx hZ hown (host := "") (Or.inl (hw _ (List.mem_of_getElem? (i := 90) rfl))) Via.refl e79 F85 E83 (Or.inr ⟨(hw _ (List.mem_of_getElem? (i := 91) rfl)), rfl, hnm⟩) (hw _ (List.mem_of_getElem? (i := 57) rfl)) (ty := (.object "com/example/overweave/overweave/model/Position")) (by decide +kernel) rfl rfl (g := (mkF m 32 #[rv a, rv mn, rv u, .val .null, .val .null, rv xs, rv xm] [(.ref u), (.ref a)])) rfl rfl (hb hby d12_32)
  have N100 := Fr.snoc X96 N82 ag
  have E101 := (E83.wr W98)
  have F102 := (F84.other W98 (Or.inr (slot_ne (Or.inr (hw _ (List.mem_of_getElem? (i := 89) rfl))) (Or.inr (hw _ (List.mem_of_getElem? (i := 91) rfl))) (by decide) (show parseFieldDescriptor "Lcom/example/overweave/overweave/model/Position;" = some (.object "com/example/overweave/overweave/model/Position") from by decide +kernel) (show parseFieldDescriptor "Lcom/example/overweave/overweave/model/Position;" = some (.object "com/example/overweave/overweave/model/Position") from by decide +kernel))))
  have F103 := (F85.same W98)
  have F104 := (F86.other W98 (Or.inr (slot_ne (Or.inr (hw _ (List.mem_of_getElem? (i := 93) rfl))) (Or.inr (hw _ (List.mem_of_getElem? (i := 91) rfl))) (by decide) (show parseFieldDescriptor "Lcom/example/overweave/overweave/model/Attribute;" = some (.object "com/example/overweave/overweave/model/Attribute") from by decide +kernel) (show parseFieldDescriptor "Lcom/example/overweave/overweave/model/Position;" = some (.object "com/example/overweave/overweave/model/Position") from by decide +kernel))))
  have F105 := (F87.other W98 (Or.inr (slot_ne (Or.inr (hw _ (List.mem_of_getElem? (i := 95) rfl))) (Or.inr (hw _ (List.mem_of_getElem? (i := 91) rfl))) (by decide) (show parseFieldDescriptor "Lcom/example/overweave/overweave/model/Attribute;" = some (.object "com/example/overweave/overweave/model/Attribute") from by decide +kernel) (show parseFieldDescriptor "Lcom/example/overweave/overweave/model/Position;" = some (.object "com/example/overweave/overweave/model/Position") from by decide +kernel))))
  have F106 := (F88.other W98 (Or.inr (slot_ne (Or.inr (hw _ (List.mem_of_getElem? (i := 97) rfl))) (Or.inr (hw _ (List.mem_of_getElem? (i := 91) rfl))) (by decide) (show parseFieldDescriptor "Ljava/util/Set;" = some (.object "java/util/Set") from by decide +kernel) (show parseFieldDescriptor "Lcom/example/overweave/overweave/model/Position;" = some (.object "com/example/overweave/overweave/model/Position") from by decide +kernel))))
  have F107 := (F89.other W98 (Or.inr (slot_ne (Or.inr (hw _ (List.mem_of_getElem? (i := 99) rfl))) (Or.inr (hw _ (List.mem_of_getElem? (i := 91) rfl))) (by decide) (show parseFieldDescriptor "Ljava/util/Map;" = some (.object "java/util/Map") from by decide +kernel) (show parseFieldDescriptor "Lcom/example/overweave/overweave/model/Position;" = some (.object "com/example/overweave/overweave/model/Position") from by decide +kernel))))
  have Z108 := Nat.le_trans Z90 (Keep.of_wr W98).1
  have hk109 := Nat.le_trans hk91 (Keep.of_wr W98).1
  have O110 := O92.wr W98 ag
  have K111 := K93.wr W98 (Or.inl (List.mem_of_getElem? (i := 0) rfl))
  refine own_bk (S' := (T94.setTop (mkF m 35 #[rv a, rv mn, rv u, .val .null, .val .null, rv xs, rv xm] []))) st99 ?_
  refine own_bk (S' := (T94.setTop (mkF m 36 #[rv a, rv mn, rv u, .val .null, .val .null, rv xs, rv xm] [(.ref a)]))) (fun t_ kont => XS.aloadN X96.here hx rfl (hb hby d12_35) rfl rfl kont) ?_
  refine own_bk (S' := (T94.setTop (mkF m 37 #[rv a, rv mn, rv u, .val .null, .val .null, rv xs, rv xm] [.null, (.ref a)]))) (fun t_ kont => XS.aloadN X96.here hx rfl (hb hby d12_36) rfl rfl kont) ?_
  obtain ⟨T112, h113, X114, e115, W116, st117⟩ := putF X96 hx hZ hown (host := "") (Or.inl (hw _ (List.mem_of_getElem? (i := 92) rfl))) Via.refl e97 F104 E101 (Or.inr ⟨(hw _ (List.mem_of_getElem? (i := 93) rfl)), rfl, hnm⟩) (hw _ (List.mem_of_getElem? (i := 57) rfl)) (ty := (.object "com/example/overweave/overweave/model/Attribute")) (by decide +kernel) rfl rfl (g := (mkF m 37 #[rv a, rv mn, rv u, .val .null, .val .null, rv xs, rv xm] [.null, (.ref a)])) rfl rfl (hb hby d12_37)
  have N118 := Fr.snoc X114 N100 ag
  have E119 := (E101.wr W116)
  have F120 := (F102.other W116 (Or.inr (slot_ne (Or.inr (hw _ (List.mem_of_getElem? (i := 89) rfl))) (Or.inr (hw _ (List.mem_of_getElem? (i := 93) rfl))) (by decide) (show parseFieldDescriptor "Lcom/example/overweave/overweave/model/Position;" = some (.object "com/example/overweave/overweave/model/Position") from by decide +kernel) (show parseFieldDescriptor "Lcom/example/overweave/overweave/model/Attribute;" = some (.object "com/example/overweave/overweave/model/Attribute") from by decide +kernel))))
  have F121 := (F103.other W116 (Or.inr (slot_ne (Or.inr (hw _ (List.mem_of_getElem? (i := 91) rfl))) (Or.inr (hw _ (List.mem_of_getElem? (i := 93) rfl))) (by decide) (show parseFieldDescriptor "Lcom/example/overweave/overweave/model/Position;" = some (.object "com/example/overweave/overweave/model/Position") from by decide +kernel) (show parseFieldDescriptor "Lcom/example/overweave/overweave/model/Attribute;" = some (.object "com/example/overweave/overweave/model/Attribute") from by decide +kernel))))
  have F122 := (F104.same W116)
  have F123 := (F105.other W116 (Or.inr (slot_ne (Or.inr (hw _ (List.mem_of_getElem? (i := 95) rfl))) (Or.inr (hw _ (List.mem_of_getElem? (i := 93) rfl))) (by decide) (show parseFieldDescriptor "Lcom/example/overweave/overweave/model/Attribute;" = some (.object "com/example/overweave/overweave/model/Attribute") from by decide +kernel) (show parseFieldDescriptor "Lcom/example/overweave/overweave/model/Attribute;" = some (.object "com/example/overweave/overweave/model/Attribute") from by decide +kernel))))
  have F124 := (F106.other W116 (Or.inr (slot_ne (Or.inr (hw _ (List.mem_of_getElem? (i := 97) rfl))) (Or.inr (hw _ (List.mem_of_getElem? (i := 93) rfl))) (by decide) (show parseFieldDescriptor "Ljava/util/Set;" = some (.object "java/util/Set") from by decide +kernel) (show parseFieldDescriptor "Lcom/example/overweave/overweave/model/Attribute;" = some (.object "com/example/overweave/overweave/model/Attribute") from by decide +kernel))))
  have F125 := (F107.other W116 (Or.inr (slot_ne (Or.inr (hw _ (List.mem_of_getElem? (i := 99) rfl))) (Or.inr (hw _ (List.mem_of_getElem? (i := 93) rfl))) (by decide) (show parseFieldDescriptor "Ljava/util/Map;" = some (.object "java/util/Map") from by decide +kernel) (show parseFieldDescriptor "Lcom/example/overweave/overweave/model/Attribute;" = some (.object "com/example/overweave/overweave/model/Attribute") from by decide +kernel))))
  have Z126 := Nat.le_trans Z108 (Keep.of_wr W116).1
  have hk127 := Nat.le_trans hk109 (Keep.of_wr W116).1
  have O128 := O110.wr W116 ag
  have K129 := K111.wr W116 (Or.inl (List.mem_of_getElem? (i := 0) rfl))
  refine own_bk (S' := (T112.setTop (mkF m 40 #[rv a, rv mn, rv u, .val .null, .val .null, rv xs, rv xm] []))) st117 ?_
  refine own_bk (S' := (T112.setTop (mkF m 41 #[rv a, rv mn, rv u, .val .null, .val .null, rv xs, rv xm] [(.ref a)]))) (fun t_ kont => XS.aloadN X114.here hx rfl (hb hby d12_40) rfl rfl kont) ?_
  refine own_bk (S' := (T112.setTop (mkF m 43 #[rv a, rv mn, rv u, .val .null, .val .null, rv xs, rv xm] [.null, (.ref a)]))) (fun t_ kont => XS.aload X114.here hx rfl (hb hby d12_41) rfl rfl kont) ?_
  obtain ⟨T130, h131, X132, e133, W134, st135⟩ := putF X114 hx hZ hown (host := "") (Or.inl (hw _ (List.mem_of_getElem? (i := 94) rfl))) Via.refl e115 F123 E119 (Or.inr ⟨(hw _ (List.mem_of_getElem? (i := 95) rfl)), rfl, hnm⟩) (hw _ (List.mem_of_getElem? (i := 57) rfl)) (ty := (.object "com/example/overweave/overweave/model/Attribute")) (by decide +kernel) rfl rfl (g := (mkF m 43 #[rv a, rv mn, rv u, .val .null, .val .null, rv xs, rv xm] [.null, (.ref a)])) rfl rfl (hb hby d12_43)
  have N136 := Fr.snoc X132 N118 ag
  have E137 := (E119.wr W134)
  have F138 := (F120.other W134 (Or.inr (slot_ne (Or.inr (hw _ (List.mem_of_getElem? (i := 89) rfl))) (Or.inr (hw _ (List.mem_of_getElem? (i := 95) rfl))) (by decide) (show parseFieldDescriptor "Lcom/example/overweave/overweave/model/Position;" = some (.object "com/example/overweave/overweave/model/Position") from by decide +kernel) (show parseFieldDescriptor "Lcom/example/overweave/overweave/model/Attribute;" = some (.object "com/example/overweave/overweave/model/Attribute") from by decide +kernel))))
  have F139 := (F121.other W134 (Or.inr (slot_ne (Or.inr (hw _ (List.mem_of_getElem? (i := 91) rfl))) (Or.inr (hw _ (List.mem_of_getElem? (i := 95) rfl))) (by decide) (show parseFieldDescriptor "Lcom/example/overweave/overweave/model/Position;" = some (.object "com/example/overweave/overweave/model/Position") from by decide +kernel) (show parseFieldDescriptor "Lcom/example/overweave/overweave/model/Attribute;" = some (.object "com/example/overweave/overweave/model/Attribute") from by decide +kernel))))
  have F140 := (F122.other W134 (Or.inr (slot_ne (Or.inr (hw _ (List.mem_of_getElem? (i := 93) rfl))) (Or.inr (hw _ (List.mem_of_getElem? (i := 95) rfl))) (by decide) (show parseFieldDescriptor "Lcom/example/overweave/overweave/model/Attribute;" = some (.object "com/example/overweave/overweave/model/Attribute") from by decide +kernel) (show parseFieldDescriptor "Lcom/example/overweave/overweave/model/Attribute;" = some (.object "com/example/overweave/overweave/model/Attribute") from by decide +kernel))))
  have F141 := (F123.same W134)
  have F142 := (F124.other W134 (Or.inr (slot_ne (Or.inr (hw _ (List.mem_of_getElem? (i := 97) rfl))) (Or.inr (hw _ (List.mem_of_getElem? (i := 95) rfl))) (by decide) (show parseFieldDescriptor "Ljava/util/Set;" = some (.object "java/util/Set") from by decide +kernel) (show parseFieldDescriptor "Lcom/example/overweave/overweave/model/Attribute;" = some (.object "com/example/overweave/overweave/model/Attribute") from by decide +kernel))))
  have F143 := (F125.other W134 (Or.inr (slot_ne (Or.inr (hw _ (List.mem_of_getElem? (i := 99) rfl))) (Or.inr (hw _ (List.mem_of_getElem? (i := 95) rfl))) (by decide) (show parseFieldDescriptor "Ljava/util/Map;" = some (.object "java/util/Map") from by decide +kernel) (show parseFieldDescriptor "Lcom/example/overweave/overweave/model/Attribute;" = some (.object "com/example/overweave/overweave/model/Attribute") from by decide +kernel))))
  have Z144 := Nat.le_trans Z126 (Keep.of_wr W134).1
  have hk145 := Nat.le_trans hk127 (Keep.of_wr W134).1
  have O146 := O128.wr W134 ag
  have K147 := K129.wr W134 (Or.inl (List.mem_of_getElem? (i := 0) rfl))
  refine own_bk (S' := (T130.setTop (mkF m 46 #[rv a, rv mn, rv u, .val .null, .val .null, rv xs, rv xm] []))) st135 ?_
  refine own_bk (S' := (T130.setTop (mkF m 47 #[rv a, rv mn, rv u, .val .null, .val .null, rv xs, rv xm] [(.ref a)]))) (fun t_ kont => XS.aloadN X132.here hx rfl (hb hby d12_46) rfl rfl kont) ?_
  refine own_bk (S' := (T130.setTop (mkF m 49 #[rv a, rv mn, rv u, .val .null, .val .null, rv xs, rv xm] [(.ref xs), (.ref a)]))) (fun t_ kont => XS.aload X132.here hx rfl (hb hby d12_47) rfl rfl kont) ?_
  obtain ⟨T148, h149, X150, e151, W152, st153⟩ := putF X132 hx hZ hown (host := "") (Or.inl (hw _ (List.mem_of_getElem? (i := 96) rfl))) Via.refl e133 F142 E137 (Or.inr ⟨(hw _ (List.mem_of_getElem? (i := 97) rfl)), rfl, hnm⟩) (hw _ (List.mem_of_getElem? (i := 57) rfl)) (ty := (.object "java/util/Set")) (by decide +kernel) rfl rfl (g := (mkF m 49 #[rv a, rv mn, rv u, .val .null, .val .null, rv xs, rv xm] [(.ref xs), (.ref a)])) rfl rfl (hb hby d12_49)
  have N154 := Fr.snoc X150 N136 ag
  have E155 := (E137.wr W152)
  have F156 := (F138.other W152 (Or.inr (slot_ne (Or.inr (hw _ (List.mem_of_getElem? (i := 89) rfl))) (Or.inr (hw _ (List.mem_of_getElem? (i := 97) rfl))) (by decide) (show parseFieldDescriptor "Lcom/example/overweave/overweave/model/Position;" = some (.object "com/example/overweave/overweave/model/Position") from by decide +kernel) (show parseFieldDescriptor "Ljava/util/Set;" = some (.object "java/util/Set") from by decide +kernel))))
  have F157 := (F139.other W152 (Or.inr (slot_ne (Or.inr (hw _ (List.mem_of_getElem? (i := 91) rfl))) (Or.inr (hw _ (List.mem_of_getElem? (i := 97) rfl))) (by decide) (show parseFieldDescriptor "Lcom/example/overweave/overweave/model/Position;" = some (.object "com/example/overweave/overweave/model/Position") from by decide +kernel) (show parseFieldDescriptor "Ljava/util/Set;" = some (.object "java/util/Set") from by decide +kernel))))
  have F158 := (F140.other W152 (Or.inr (slot_ne (Or.inr (hw _ (List.mem_of_getElem? (i := 93) rfl))) (Or.inr (hw _ (List.mem_of_getElem? (i := 97) rfl))) (by decide) (show parseFieldDescriptor "Lcom/example/overweave/overweave/model/Attribute;" = some (.object "com/example/overweave/overweave/model/Attribute") from by decide +kernel) (show parseFieldDescriptor "Ljava/util/Set;" = some (.object "java/util/Set") from by decide +kernel))))
  have F159 := (F141.other W152 (Or.inr (slot_ne (Or.inr (hw _ (List.mem_of_getElem? (i := 95) rfl))) (Or.inr (hw _ (List.mem_of_getElem? (i := 97) rfl))) (by decide) (show parseFieldDescriptor "Lcom/example/overweave/overweave/model/Attribute;" = some (.object "com/example/overweave/overweave/model/Attribute") from by decide +kernel) (show parseFieldDescriptor "Ljava/util/Set;" = some (.object "java/util/Set") from by decide +kernel))))
  have F160 := (F142.same W152)
  have F161 := (F143.other W152 (Or.inr (slot_ne (Or.inr (hw _ (List.mem_of_getElem? (i := 99) rfl))) (Or.inr (hw _ (List.mem_of_getElem? (i := 97) rfl))) (by decide) (show parseFieldDescriptor "Ljava/util/Map;" = some (.object "java/util/Map") from by decide +kernel) (show parseFieldDescriptor "Ljava/util/Set;" = some (.object "java/util/Set") from by decide +kernel))))
  have Z162 := Nat.le_trans Z144 (Keep.of_wr W152).1
  have hk163 := Nat.le_trans hk145 (Keep.of_wr W152).1
  have O164 := O146.wr W152 ag
  have K165 := K147.wr W152 (Or.inl (List.mem_of_getElem? (i := 0) rfl))
  refine own_bk (S' := (T148.setTop (mkF m 52 #[rv a, rv mn, rv u, .val .null, .val .null, rv xs, rv xm] []))) st153 ?_
  refine own_bk (S' := (T148.setTop (mkF m 53 #[rv a, rv mn, rv u, .val .null, .val .null, rv xs, rv xm] [(.ref a)]))) (fun t_ kont => XS.aloadN X150.here hx rfl (hb hby d12_52) rfl rfl kont) ?_
  refine own_bk (S' := (T148.setTop (mkF m 55 #[rv a, rv mn, rv u, .val .null, .val .null, rv xs, rv xm] [(.ref xm), (.ref a)]))) (fun t_ kont => XS.aload X150.here hx rfl (hb hby d12_53) rfl rfl kont) ?_
  obtain ⟨T166, h167, X168, e169, W170, st171⟩ := putF X150 hx hZ hown (host := "") (Or.inl (hw _ (List.mem_of_getElem? (i := 98) rfl))) Via.refl e151 F161 E155 (Or.inr ⟨(hw _ (List.mem_of_getElem? (i := 99) rfl)), rfl, hnm⟩) (hw _ (List.mem_of_getElem? (i := 57) rfl)) (ty := (.object "java/util/Map")) (by decide +kernel) rfl rfl (g := (mkF m 55 #[rv a, rv mn, rv u, .val .null, .val .null, rv xs, rv xm] [(.ref xm), (.ref a)])) rfl rfl (hb hby d12_55)
  have N172 := Fr.snoc X168 N154 ag
  have E173 := (E155.wr W170)
  have F174 := (F156.other W170 (Or.inr (slot_ne (Or.inr (hw _ (List.mem_of_getElem? (i := 89) rfl))) (Or.inr (hw _ (List.mem_of_getElem? (i := 99) rfl))) (by decide) (show parseFieldDescriptor "Lcom/example/overweave/overweave/model/Position;" = some (.object "com/example/overweave/overweave/model/Position") from by decide +kernel) (show parseFieldDescriptor "Ljava/util/Map;" = some (.object "java/util/Map") from by decide +kernel))))
  have F175 := (F157.other W170 (Or.inr (slot_ne (Or.inr (hw _ (List.mem_of_getElem? (i := 91) rfl))) (Or.inr (hw _ (List.mem_of_getElem? (i := 99) rfl))) (by decide) (show parseFieldDescriptor "Lcom/example/overweave/overweave/model/Position;" = some (.object "com/example/overweave/overweave/model/Position") from by decide +kernel) (show parseFieldDescriptor "Ljava/util/Map;" = some (.object "java/util/Map") from by decide +kernel))))
  have F176 := (F158.other W170 (Or.inr (slot_ne (Or.inr (hw _ (List.mem_of_getElem? (i := 93) rfl))) (Or.inr (hw _ (List.mem_of_getElem? (i := 99) rfl))) (by decide) (show parseFieldDescriptor "Lcom/example/overweave/overweave/model/Attribute;" = some (.object "com/example/overweave/overweave/model/Attribute") from by decide +kernel) (show parseFieldDescriptor "Ljava/util/Map;" = some (.object "java/util/Map") from by decide +kernel))))
  have F177 := (F159.other W170 (Or.inr (slot_ne (Or.inr (hw _ (List.mem_of_getElem? (i := 95) rfl))) (Or.inr (hw _ (List.mem_of_getElem? (i := 99) rfl))) (by decide) (show parseFieldDescriptor "Lcom/example/overweave/overweave/model/Attribute;" = some (.object "com/example/overweave/overweave/model/Attribute") from by decide +kernel) (show parseFieldDescriptor "Ljava/util/Map;" = some (.object "java/util/Map") from by decide +kernel))))
  have F178 := (F160.other W170 (Or.inr (slot_ne (Or.inr (hw _ (List.mem_of_getElem? (i := 97) rfl))) (Or.inr (hw _ (List.mem_of_getElem? (i := 99) rfl))) (by decide) (show parseFieldDescriptor "Ljava/util/Set;" = some (.object "java/util/Set") from by decide +kernel) (show parseFieldDescriptor "Ljava/util/Map;" = some (.object "java/util/Map") from by decide +kernel))))
  have F179 := (F161.same W170)
  have Z180 := Nat.le_trans Z162 (Keep.of_wr W170).1
  have hk181 := Nat.le_trans hk163 (Keep.of_wr W170).1
  have O182 := O164.wr W170 ag
  have K183 := K165.wr W170 (Or.inl (List.mem_of_getElem? (i := 0) rfl))
  refine own_bk (S' := (T166.setTop (mkF m 58 #[rv a, rv mn, rv u, .val .null, .val .null, rv xs, rv xm] []))) st171 ?_
  exact own_retVW hS X168 (by rw [show T166.heap = h167 from e169]; exact hk181) hx hlk Bd.returns (hb hby d12_58) (by rw [e169]; exact ⟨rfl, N172, O182, K183, F174, F175⟩) (by decide) (by decide)
theorem d15_0 : decode prog_39_method_6_code 0 = .ok (.aload_n 0, 1) := by decide +kernel
theorem d15_1 : decode prog_39_method_6_code 1 = .ok (.getfield 33, 3) := by decide +kernel
theorem d15_4 : decode prog_39_method_6_code 4 = .ok (.ifnonnull 10, 3) := by decide +kernel
theorem d15_7 : decode prog_39_method_6_code 7 = .ok (.aload_n 0, 1) := by decide +kernel
theorem d15_8 : decode prog_39_method_6_code 8 = .ok (.getfield 28, 3) := by decide +kernel
theorem d15_11 : decode prog_39_method_6_code 11 = .ok (.goto 7, 3) := by decide +kernel
theorem d15_14 : decode prog_39_method_6_code 14 = .ok (.aload_n 0, 1) := by decide +kernel
theorem d15_15 : decode prog_39_method_6_code 15 = .ok (.getfield 33, 3) := by decide +kernel
theorem d15_18 : decode prog_39_method_6_code 18 = .ok (.areturn, 1) := by decide +kernel
theorem ef_rmLevN (m : MethodId) (x0 : Addr) : entryFrame m #[(.ref x0)] 1 = mkF m 0 #[.val (.ref x0)] [] := by first | (simp [entryFrame, mkF, argsToLocals, Value.category, maxLocals]; done) | rfl
def Q_rmLevN (Z : State) (a mn : Addr) (h0 : Heap) (n0 : Nat) (v : Option Value) (h : Heap) (L : List Loc) : Prop := v = some (.ref mn) ∧ Fr n0 L ∧ h = h0
set_option maxRecDepth 65536 in
set_option maxHeartbeats 40000000 in
theorem rmLevN (l : Launch) (Z : State) (a0 : Array Value) (hw : ∀ d ∈ tables_1, d.before a0 Z = true) (ws : List Jvm.Cond) (a mn : Addr) (h0 : Heap) (n0 : Nat) (Z0 : n0 ≤ h0.size) (F0 : Fld Z h0 a "com/example/overweave/overweave/merge/SdkLevels$App" "main" "Lcom/example/overweave/overweave/model/Position;" (.ref mn)) (F1 : Fld Z h0 a "com/example/overweave/overweave/merge/SdkLevels$App" "usesSdk" "Lcom/example/overweave/overweave/model/Position;" .null) :
    MetFree l (⟨"com/example/overweave/overweave/merge/SdkLevels$App", "levelsPosition", "()Lcom/example/overweave/overweave/model/Position;"⟩ : MethodName) (head1 (Jvm.Cond.code (⟨"com/example/overweave/overweave/merge/SdkLevels$App", "levelsPosition", "()Lcom/example/overweave/overweave/model/Position;"⟩ : MethodName) prog_39_method_6_code 1 (some (.object "com/example/overweave/overweave/model/Position")) :: ws) ({ frames := 0, cells := 0, slots := 0, locals := 0 } : Room)) (fun as_ U_ => as_ = #[(.ref a)] ∧ Z.Warmed39 U_.vm ∧ U_.heap = h0) (fun _ _ _ _ _ => True) (fun _ U_ o_ U2_ => ∃ v_ L_, o_ = .returned v_ ∧ (Q_rmLevN Z a mn h0 n0) v_ U2_.heap L_ ∧ FrameEnd U_ o_ U2_ L_ ({ frames := 0, cells := 0, slots := 0, locals := 0 } : Room).cells ({ frames := 0, cells := 0, slots := 0, locals := 0 } : Room).slots) := by
  refine MetFree.of_bodySF (plainFor_of_name (by first | (simp [plainName, overriddenIn]; done) | decide +kernel : plainName "com/example/overweave/overweave/merge/SdkLevels$App" = true)) hisR ?_
  intro p e s m args below meth c s₁ Bd hml0 hP hK
  obtain ⟨rfl, hZ, hh⟩ := hP
  have hx := Bd.exec
  have hby := Bd.bytes
  have hlk := Bd.notSynchronized
  have hml : c.maxLocals = 1 := hml0
  have hown : s.vm.findClass "com/example/overweave/overweave/merge/SdkLevels$App" = some m.cls := findClass_of_methodNamed Bd.named
  have hnm := (name_of_methodNamed Bd.named Bd.method).1
  have X0 : Stand p l e ({ frames := 0, cells := 0, slots := 0, locals := 0 } : Room) s m #[(.ref a)] below meth c s₁ [] 0 0 := Stand.of_body Bd
  have e0 : s₁.heap = h0 := by rw [← hh, Bd.state]; rfl
  have N0 := Fr.nil n0
  show own_Go p e below (own_R s below (Q_rmLevN Z a mn h0 n0) ({ frames := 0, cells := 0, slots := 0, locals := 0 } : Room).cells ({ frames := 0, cells := 0, slots := 0, locals := 0 } : Room).slots) (s₁.setTop (entryFrame m #[(.ref a)] 1))
  refine own_bk (S' := (s₁.setTop (mkF m 0 #[rv a] []))) (fun t_ kont => castTop (ef_rmLevN m (a)) kont) ?_
  refine own_bk (S' := (s₁.setTop (mkF m 1 #[rv a] [(.ref a)]))) (fun t_ kont => XS.aloadN X0.here hx rfl (hb hby d15_0) rfl rfl kont) ?_
  obtain ⟨T1, X2, e3, st4⟩ := getF X0 hx hZ hown (host := "") (Or.inl (hw _ (List.mem_of_getElem? (i := 90) rfl))) Via.refl e0 F1 (g := (mkF m 1 #[rv a] [(.ref a)])) rfl rfl (hb hby d15_1)
  refine own_bk (S' := (T1.setTop (mkF m 4 #[rv a] [.null]))) st4 ?_
  refine own_bk (S' := (T1.setTop (mkF m 7 #[rv a] []))) (fun t_ kont => XS.ifnonnullNo X2.here hx rfl (hb hby d15_4) rfl kont) ?_
  refine own_bk (S' := (T1.setTop (mkF m 8 #[rv a] [(.ref a)]))) (fun t_ kont => XS.aloadN X2.here hx rfl (hb hby d15_7) rfl rfl kont) ?_
  obtain ⟨T5, X6, e7, st8⟩ := getF X2 hx hZ hown (host := "") (Or.inl (hw _ (List.mem_of_getElem? (i := 88) rfl))) Via.refl e3 F0 (g := (mkF m 8 #[rv a] [(.ref a)])) rfl rfl (hb hby d15_8)
  refine own_bk (S' := (T5.setTop (mkF m 11 #[rv a] [(.ref mn)]))) st8 ?_
  refine own_bk (S' := (T5.setTop (mkF m 18 #[rv a] [(.ref mn)]))) (fun t_ kont => XS.goto X6.here hx rfl (pc0 := 11) (pc' := 18) rfl (hb hby d15_11) (by decide) (by decide) kont) ?_
  exact own_retA X6 hx hlk Bd.returns rfl rfl rfl (hb hby d15_18) ⟨rfl, N0, e7⟩ (by decide) (by decide)
theorem ef_rmLevR (m : MethodId) (x0 : Addr) : entryFrame m #[(.ref x0)] 1 = mkF m 0 #[.val (.ref x0)] [] := by first | (simp [entryFrame, mkF, argsToLocals, Value.category, maxLocals]; done) | rfl
def Q_rmLevR (Z : State) (a mn u : Addr) (h0 : Heap) (n0 : Nat) (v : Option Value) (h : Heap) (L : List Loc) : Prop := v = some (.ref u) ∧ Fr n0 L ∧ h = h0
set_option maxRecDepth 65536 in
set_option maxHeartbeats 40000000 in
theorem rmLevR (l : Launch) (Z : State) (a0 : Array Value) (hw : ∀ d ∈ tables_1, d.before a0 Z = true) (ws : List Jvm.Cond) (a mn u : Addr) (h0 : Heap) (n0 : Nat) (Z0 : n0 ≤ h0.size) (F0 : Fld Z h0 a "com/example/overweave/overweave/merge/SdkLevels$App" "main" "Lcom/example/overweave/overweave/model/Position;" (.ref mn)) (F1 : Fld Z h0 a "com/example/overweave/overweave/merge/SdkLevels$App" "usesSdk" "Lcom/example/overweave/overweave/model/Position;" (.ref u)) :
    MetFree l (⟨"com/example/overweave/overweave/merge/SdkLevels$App", "levelsPosition", "()Lcom/example/overweave/overweave/model/Position;"⟩ : MethodName) (head1 (Jvm.Cond.code (⟨"com/example/overweave/overweave/merge/SdkLevels$App", "levelsPosition", "()Lcom/example/overweave/overweave/model/Position;"⟩ : MethodName) prog_39_method_6_code 1 (some (.object "com/example/overweave/overweave/model/Position")) :: ws) ({ frames := 0, cells := 0, slots := 0, locals := 0 } : Room)) (fun as_ U_ => as_ = #[(.ref a)] ∧ Z.Warmed39 U_.vm ∧ U_.heap = h0) (fun _ _ _ _ _ => True) (fun _ U_ o_ U2_ => ∃ v_ L_, o_ = .returned v_ ∧ (Q_rmLevR Z a mn u h0 n0) v_ U2_.heap L_ ∧ FrameEnd U_ o_ U2_ L_ ({ frames := 0, cells := 0, slots := 0, locals := 0 } : Room).cells ({ frames := 0, cells := 0, slots := 0, locals := 0 } : Room).slots) := by
  refine MetFree.of_bodySF (plainFor_of_name (by first | (simp [plainName, overriddenIn]; done) | decide +kernel : plainName "com/example/overweave/overweave/merge/SdkLevels$App" = true)) hisR ?_
  intro p e s m args below meth c s₁ Bd hml0 hP hK
  obtain ⟨rfl, hZ, hh⟩ := hP
  have hx := Bd.exec
  have hby := Bd.bytes
  have hlk := Bd.notSynchronized
  have hml : c.maxLocals = 1 := hml0
  have hown : s.vm.findClass "com/example/overweave/overweave/merge/SdkLevels$App" = some m.cls := findClass_of_methodNamed Bd.named
  have hnm := (name_of_methodNamed Bd.named Bd.method).1
  have X0 : Stand p l e ({ frames := 0, cells := 0, slots := 0, locals := 0 } : Room) s m #[(.ref a)] below meth c s₁ [] 0 0 := Stand.of_body Bd
  have e0 : s₁.heap = h0 := by rw [← hh, Bd.state]; rfl
  have N0 := Fr.nil n0
  show own_Go p e below (own_R s below (Q_rmLevR Z a mn u h0 n0) ({ frames := 0, cells := 0, slots := 0, locals := 0 } : Room).cells ({ frames := 0, cells := 0, slots := 0, locals := 0 } : Room).slots) (s₁.setTop (entryFrame m #[(.ref a)] 1))
  refine own_bk (S' := (s₁.setTop (mkF m 0 #[rv a] []))) (fun t_ kont => castTop (ef_rmLevR m (a)) kont) ?_
  refine own_bk (S' := (s₁.setTop (mkF m 1 #[rv a] [(.ref a)]))) (fun t_ kont => XS.aloadN X0.here hx rfl (hb hby d15_0) rfl rfl kont) ?_
  obtain ⟨T1, X2, e3, st4⟩ := getF X0 hx hZ hown (host := "") (Or.inl (hw _ (List.mem_of_getElem? (i := 90) rfl))) Via.refl e0 F1 (g := (mkF m 1 #[rv a] [(.ref a)])) rfl rfl (hb hby d15_1)
  refine own_bk (S' := (T1.setTop (mkF m 4 #[rv a] [(.ref u)]))) st4 ?_
  refine own_bk (S' := (T1.setTop (mkF m 14 #[rv a] []))) (fun t_ kont => XS.ifnonnullYes X2.here hx rfl (pc0 := 4) (pc' := 14) rfl (hb hby d15_4) rfl (by decide) (by decide) kont) ?_
  refine own_bk (S' := (T1.setTop (mkF m 15 #[rv a] [(.ref a)]))) (fun t_ kont => XS.aloadN X2.here hx rfl (hb hby d15_14) rfl rfl kont) ?_
  obtain ⟨T5, X6, e7, st8⟩ := getF X2 hx hZ hown (host := "") (Or.inl (hw _ (List.mem_of_getElem? (i := 90) rfl))) Via.refl e3 F1 (g := (mkF m 15 #[rv a] [(.ref a)])) rfl rfl (hb hby d15_15)
  refine own_bk (S' := (T5.setTop (mkF m 18 #[rv a] [(.ref u)]))) st8 ?_
  exact own_retA X6 hx hlk Bd.returns rfl rfl rfl (hb hby d15_18) ⟨rfl, N0, e7⟩ (by decide) (by decide)
theorem d16_0 : decode prog_46_method_6_code 0 = .ok (.aload_n 0, 1) := by decide +kernel
theorem d16_1 : decode prog_46_method_6_code 1 = .ok (.getfield 22, 3) := by decide +kernel
theorem d16_4 : decode prog_46_method_6_code 4 = .ok (.areturn, 1) := by decide +kernel
theorem ef_rmg_file (m : MethodId) (x0 : Addr) : entryFrame m #[(.ref x0)] 1 = mkF m 0 #[.val (.ref x0)] [] := by first | (simp [entryFrame, mkF, argsToLocals, Value.category, maxLocals]; done) | rfl
def Q_rmg_file (Z : State) (a : Addr) (x : Addr) (h0 : Heap) (n0 : Nat) (v : Option Value) (h : Heap) (L : List Loc) : Prop := v = some (.ref x) ∧ Fr n0 L ∧ h = h0
set_option maxRecDepth 65536 in
set_option maxHeartbeats 40000000 in
theorem rmg_file (l : Launch) (Z : State) (a0 : Array Value) (hw : ∀ d ∈ tables_1, d.before a0 Z = true) (ws : List Jvm.Cond) (a : Addr) (x : Addr) (h0 : Heap) (n0 : Nat) (Z0 : n0 ≤ h0.size) (F : Fld Z h0 a "com/example/overweave/overweave/model/Position" "file" "Ljava/lang/String;" (.ref x)) :
    MetFree l (⟨"com/example/overweave/overweave/model/Position", "file", "()Ljava/lang/String;"⟩ : MethodName) (head1 (Jvm.Cond.code (⟨"com/example/overweave/overweave/model/Position", "file", "()Ljava/lang/String;"⟩ : MethodName) prog_46_method_6_code 1 (some (.object "java/lang/String")) :: ws) ({ frames := 0, cells := 0, slots := 0, locals := 0 } : Room)) (fun as_ U_ => as_ = #[(.ref a)] ∧ Z.Warmed39 U_.vm ∧ U_.heap = h0) (fun _ _ _ _ _ => True) (fun _ U_ o_ U2_ => ∃ v_ L_, o_ = .returned v_ ∧ (Q_rmg_file Z a x h0 n0) v_ U2_.heap L_ ∧ FrameEnd U_ o_ U2_ L_ ({ frames := 0, cells := 0, slots := 0, locals := 0 } : Room).cells ({ frames := 0, cells := 0, slots := 0, locals := 0 } : Room).slots) := by
  refine MetFree.of_bodySF (plainFor_of_name (by first | (simp [plainName, overriddenIn]; done) | decide +kernel : plainName "com/example/overweave/overweave/model/Position" = true)) hisR ?_
  intro p e s m args below meth c s₁ Bd hml0 hP hK
  obtain ⟨rfl, hZ, hh⟩ := hP
  have hx := Bd.exec
  have hby := Bd.bytes
  have hlk := Bd.notSynchronized
  have hml : c.maxLocals = 1 := hml0
  have hown : s.vm.findClass "com/example/overweave/overweave/model/Position" = some m.cls := findClass_of_methodNamed Bd.named
  have hnm := (name_of_methodNamed Bd.named Bd.method).1
  have X0 : Stand p l e ({ frames := 0, cells := 0, slots := 0, locals := 0 } : Room) s m #[(.ref a)] below meth c s₁ [] 0 0 := Stand.of_body Bd
  have e0 : s₁.heap = h0 := by rw [← hh, Bd.state]; rfl
  have N0 := Fr.nil n0
  show own_Go p e below (own_R s below (Q_rmg_file Z a x h0 n0) ({ frames := 0, cells := 0, slots := 0, locals := 0 } : Room).cells ({ frames := 0, cells := 0, slots := 0, locals := 0 } : Room).slots) (s₁.setTop (entryFrame m #[(.ref a)] 1))
  refine own_bk (S' := (s₁.setTop (mkF m 0 #[rv a] []))) (fun t_ kont => castTop (ef_rmg_file m (a)) kont) ?_
  refine own_bk (S' := (s₁.setTop (mkF m 1 #[rv a] [(.ref a)]))) (fun t_ kont => XS.aloadN X0.here hx rfl (hb hby d16_0) rfl rfl kont) ?_
  obtain ⟨T1, X2, e3, st4⟩ := getF X0 hx hZ hown (host := "") (Or.inl (hw _ (List.mem_of_getElem? (i := 50) rfl))) Via.refl e0 F (g := (mkF m 1 #[rv a] [(.ref a)])) rfl rfl (hb hby d16_1)
  refine own_bk (S' := (T1.setTop (mkF m 4 #[rv a] [(.ref x)]))) st4 ?_
  exact own_retA X2 hx hlk Bd.returns rfl rfl rfl (hb hby d16_4) ⟨rfl, N0, e3⟩ (by decide) (by decide)
theorem d18_0 : decode prog_46_method_7_code 0 = .ok (.aload_n 0, 1) := by decide +kernel
theorem d18_1 : decode prog_46_method_7_code 1 = .ok (.getfield 27, 3) := by decide +kernel
theorem d18_4 : decode prog_46_method_7_code 4 = .ok (.ireturn, 1) := by decide +kernel
theorem ef_rmg_line (m : MethodId) (x0 : Addr) : entryFrame m #[(.ref x0)] 1 = mkF m 0 #[.val (.ref x0)] [] := by first | (simp [entryFrame, mkF, argsToLocals, Value.category, maxLocals]; done) | rfl
def Q_rmg_line (Z : State) (a : Addr) (x : Int32) (h0 : Heap) (n0 : Nat) (v : Option Value) (h : Heap) (L : List Loc) : Prop := v = some (.int x) ∧ Fr n0 L ∧ h = h0
set_option maxRecDepth 65536 in
set_option maxHeartbeats 40000000 in
theorem rmg_line (l : Launch) (Z : State) (a0 : Array Value) (hw : ∀ d ∈ tables_1, d.before a0 Z = true) (ws : List Jvm.Cond) (a : Addr) (x : Int32) (h0 : Heap) (n0 : Nat) (Z0 : n0 ≤ h0.size) (F : Fld Z h0 a "com/example/overweave/overweave/model/Position" "line" "I" (.int x)) :
    MetFree l (⟨"com/example/overweave/overweave/model/Position", "line", "()I"⟩ : MethodName) (head1 (Jvm.Cond.code (⟨"com/example/overweave/overweave/model/Position", "line", "()I"⟩ : MethodName) prog_46_method_7_code 1 (some .int) :: ws) ({ frames := 0, cells := 0, slots := 0, locals := 0 } : Room)) (fun as_ U_ => as_ = #[(.ref a)] ∧ Z.Warmed39 U_.vm ∧ U_.heap = h0) (fun _ _ _ _ _ => True) (fun _ U_ o_ U2_ => ∃ v_ L_, o_ = .returned v_ ∧ (Q_rmg_line Z a x h0 n0) v_ U2_.heap L_ ∧ FrameEnd U_ o_ U2_ L_ ({ frames := 0, cells := 0, slots := 0, locals := 0 } : Room).cells ({ frames := 0, cells := 0, slots := 0, locals := 0 } : Room).slots) := by
  refine MetFree.of_bodySF (plainFor_of_name (by first | (simp [plainName, overriddenIn]; done) | decide +kernel : plainName "com/example/overweave/overweave/model/Position" = true)) hisR ?_
  intro p e s m args below meth c s₁ Bd hml0 hP hK
  obtain ⟨rfl, hZ, hh⟩ := hP
  have hx := Bd.exec
  have hby := Bd.bytes
  have hlk := Bd.notSynchronized
  have hml : c.maxLocals = 1 := hml0
  have hown : s.vm.findClass "com/example/overweave/overweave/model/Position" = some m.cls := findClass_of_methodNamed Bd.named
  have hnm := (name_of_methodNamed Bd.named Bd.method).1
  have X0 : Stand p l e ({ frames := 0, cells := 0, slots := 0, locals := 0 } : Room) s m #[(.ref a)] below meth c s₁ [] 0 0 := Stand.of_body Bd
  have e0 : s₁.heap = h0 := by rw [← hh, Bd.state]; rfl
  have N0 := Fr.nil n0
  show own_Go p e below (own_R s below (Q_rmg_line Z a x h0 n0) ({ frames := 0, cells := 0, slots := 0, locals := 0 } : Room).cells ({ frames := 0, cells := 0, slots := 0, locals := 0 } : Room).slots) (s₁.setTop (entryFrame m #[(.ref a)] 1))
  refine own_bk (S' := (s₁.setTop (mkF m 0 #[rv a] []))) (fun t_ kont => castTop (ef_rmg_line m (a)) kont) ?_
  refine own_bk (S' := (s₁.setTop (mkF m 1 #[rv a] [(.ref a)]))) (fun t_ kont => XS.aloadN X0.here hx rfl (hb hby d18_0) rfl rfl kont) ?_
  obtain ⟨T1, X2, e3, st4⟩ := getF X0 hx hZ hown (host := "") (Or.inl (hw _ (List.mem_of_getElem? (i := 52) rfl))) Via.refl e0 F (g := (mkF m 1 #[rv a] [(.ref a)])) rfl rfl (hb hby d18_1)
  refine own_bk (S' := (T1.setTop (mkF m 4 #[rv a] [(.int x)]))) st4 ?_
  exact own_retI X2 hx hlk Bd.returns (hb hby d18_4) ⟨rfl, N0, e3⟩ (by decide) (by decide)
theorem d19_0 : decode prog_46_method_8_code 0 = .ok (.aload_n 0, 1) := by decide +kernel
theorem d19_1 : decode prog_46_method_8_code 1 = .ok (.getfield 31, 3) := by decide +kernel
theorem d19_4 : decode prog_46_method_8_code 4 = .ok (.ireturn, 1) := by decide +kernel
theorem ef_rmg_column (m : MethodId) (x0 : Addr) : entryFrame m #[(.ref x0)] 1 = mkF m 0 #[.val (.ref x0)] [] := by first | (simp [entryFrame, mkF, argsToLocals, Value.category, maxLocals]; done) | rfl
def Q_rmg_column (Z : State) (a : Addr) (x : Int32) (h0 : Heap) (n0 : Nat) (v : Option Value) (h : Heap) (L : List Loc) : Prop := v = some (.int x) ∧ Fr n0 L ∧ h = h0
set_option maxRecDepth 65536 in
set_option maxHeartbeats 40000000 in
theorem rmg_column (l : Launch) (Z : State) (a0 : Array Value) (hw : ∀ d ∈ tables_1, d.before a0 Z = true) (ws : List Jvm.Cond) (a : Addr) (x : Int32) (h0 : Heap) (n0 : Nat) (Z0 : n0 ≤ h0.size) (F : Fld Z h0 a "com/example/overweave/overweave/model/Position" "column" "I" (.int x)) :
    MetFree l (⟨"com/example/overweave/overweave/model/Position", "column", "()I"⟩ : MethodName) (head1 (Jvm.Cond.code (⟨"com/example/overweave/overweave/model/Position", "column", "()I"⟩ : MethodName) prog_46_method_8_code 1 (some .int) :: ws) ({ frames := 0, cells := 0, slots := 0, locals := 0 } : Room)) (fun as_ U_ => as_ = #[(.ref a)] ∧ Z.Warmed39 U_.vm ∧ U_.heap = h0) (fun _ _ _ _ _ => True) (fun _ U_ o_ U2_ => ∃ v_ L_, o_ = .returned v_ ∧ (Q_rmg_column Z a x h0 n0) v_ U2_.heap L_ ∧ FrameEnd U_ o_ U2_ L_ ({ frames := 0, cells := 0, slots := 0, locals := 0 } : Room).cells ({ frames := 0, cells := 0, slots := 0, locals := 0 } : Room).slots) := by
  refine MetFree.of_bodySF (plainFor_of_name (by first | (simp [plainName, overriddenIn]; done) | decide +kernel : plainName "com/example/overweave/overweave/model/Position" = true)) hisR ?_
  intro p e s m args below meth c s₁ Bd hml0 hP hK
  obtain ⟨rfl, hZ, hh⟩ := hP
  have hx := Bd.exec
  have hby := Bd.bytes
  have hlk := Bd.notSynchronized
  have hml : c.maxLocals = 1 := hml0
  have hown : s.vm.findClass "com/example/overweave/overweave/model/Position" = some m.cls := findClass_of_methodNamed Bd.named
  have hnm := (name_of_methodNamed Bd.named Bd.method).1
  have X0 : Stand p l e ({ frames := 0, cells := 0, slots := 0, locals := 0 } : Room) s m #[(.ref a)] below meth c s₁ [] 0 0 := Stand.of_body Bd
  have e0 : s₁.heap = h0 := by rw [← hh, Bd.state]; rfl
  have N0 := Fr.nil n0
  show own_Go p e below (own_R s below (Q_rmg_column Z a x h0 n0) ({ frames := 0, cells := 0, slots := 0, locals := 0 } : Room).cells ({ frames := 0, cells := 0, slots := 0, locals := 0 } : Room).slots) (s₁.setTop (entryFrame m #[(.ref a)] 1))
  refine own_bk (S' := (s₁.setTop (mkF m 0 #[rv a] []))) (fun t_ kont => castTop (ef_rmg_column m (a)) kont) ?_
  refine own_bk (S' := (s₁.setTop (mkF m 1 #[rv a] [(.ref a)]))) (fun t_ kont => XS.aloadN X0.here hx rfl (hb hby d19_0) rfl rfl kont) ?_
  obtain ⟨T1, X2, e3, st4⟩ := getF X0 hx hZ hown (host := "") (Or.inl (hw _ (List.mem_of_getElem? (i := 54) rfl))) Via.refl e0 F (g := (mkF m 1 #[rv a] [(.ref a)])) rfl rfl (hb hby d19_1)
  refine own_bk (S' := (T1.setTop (mkF m 4 #[rv a] [(.int x)]))) st4 ?_
  exact own_retI X2 hx hlk Bd.returns (hb hby d19_4) ⟨rfl, N0, e3⟩ (by decide) (by decide)
theorem d17_0 : decode jdk_42_method_66_code 0 = .ok (.aload_n 0, 1) := by decide +kernel
theorem d17_1 : decode jdk_42_method_66_code 1 = .ok (.aload_n 1, 1) := by decide +kernel
theorem d17_2 : decode jdk_42_method_66_code 2 = .ok (.if_acmp .ne 5, 3) := by decide +kernel
theorem d17_5 : decode jdk_42_method_66_code 5 = .ok (.iconst 1, 1) := by decide +kernel
theorem d17_6 : decode jdk_42_method_66_code 6 = .ok (.ireturn, 1) := by decide +kernel
theorem d17_7 : decode jdk_42_method_66_code 7 = .ok (.aload_n 1, 1) := by decide +kernel
theorem d17_8 : decode jdk_42_method_66_code 8 = .ok (.instanceof 10, 3) := by decide +kernel
theorem d17_11 : decode jdk_42_method_66_code 11 = .ok (.ifCond .eq 43, 3) := by decide +kernel
theorem d17_14 : decode jdk_42_method_66_code 14 = .ok (.aload_n 1, 1) := by decide +kernel
theorem d17_15 : decode jdk_42_method_66_code 15 = .ok (.checkcast 10, 3) := by decide +kernel
theorem d17_18 : decode jdk_42_method_66_code 18 = .ok (.astore_n 2, 1) := by decide +kernel
theorem d17_19 : decode jdk_42_method_66_code 19 = .ok (.getstatic 38, 3) := by decide +kernel
theorem d17_22 : decode jdk_42_method_66_code 22 = .ok (.ifCond .eq 14, 3) := by decide +kernel
theorem d17_25 : decode jdk_42_method_66_code 25 = .ok (.aload_n 0, 1) := by decide +kernel
theorem d17_26 : decode jdk_42_method_66_code 26 = .ok (.getfield 15, 3) := by decide +kernel
theorem d17_29 : decode jdk_42_method_66_code 29 = .ok (.aload_n 2, 1) := by decide +kernel
theorem d17_30 : decode jdk_42_method_66_code 30 = .ok (.getfield 15, 3) := by decide +kernel
theorem d17_33 : decode jdk_42_method_66_code 33 = .ok (.if_icmp .ne 21, 3) := by decide +kernel
theorem d17_36 : decode jdk_42_method_66_code 36 = .ok (.aload_n 0, 1) := by decide +kernel
theorem d17_37 : decode jdk_42_method_66_code 37 = .ok (.getfield 9, 3) := by decide +kernel
theorem d17_40 : decode jdk_42_method_66_code 40 = .ok (.aload_n 2, 1) := by decide +kernel
theorem d17_41 : decode jdk_42_method_66_code 41 = .ok (.getfield 9, 3) := by decide +kernel
theorem d17_44 : decode jdk_42_method_66_code 44 = .ok (.invokestatic 541, 3) := by decide +kernel
theorem d17_47 : decode jdk_42_method_66_code 47 = .ok (.ifCond .eq 7, 3) := by decide +kernel
theorem d17_50 : decode jdk_42_method_66_code 50 = .ok (.iconst 1, 1) := by decide +kernel
theorem d17_51 : decode jdk_42_method_66_code 51 = .ok (.goto 4, 3) := by decide +kernel
theorem d17_54 : decode jdk_42_method_66_code 54 = .ok (.iconst 0, 1) := by decide +kernel
theorem d17_55 : decode jdk_42_method_66_code 55 = .ok (.ireturn, 1) := by decide +kernel
theorem ef_rmEq (m : MethodId) (x0 : Addr) (x1 : Addr) : entryFrame m #[(.ref x0), (.ref x1)] 3 = mkF m 0 #[.val (.ref x0), .val (.ref x1), .unset] [] := by first | (simp [entryFrame, mkF, argsToLocals, Value.category, maxLocals]; done) | rfl
def Q_rmEq (Z : State) (a : Addr) (h0 : Heap) (n0 : Nat) (v : Option Value) (h : Heap) (L : List Loc) : Prop := v = some (.int 1) ∧ Fr n0 L ∧ h = h0
set_option maxRecDepth 65536 in
set_option maxHeartbeats 40000000 in
theorem rmEq (l : Launch) (Z : State) (a0 : Array Value) (hw : ∀ d ∈ tables_1, d.before a0 Z = true) (ws : List Jvm.Cond) (a : Addr) (h0 : Heap) (n0 : Nat) (Z0 : n0 ≤ h0.size)  :
    MetFree l (⟨"java/lang/String", "equals", "(Ljava/lang/Object;)Z"⟩ : MethodName) (head1 (Jvm.Cond.code (⟨"java/lang/String", "equals", "(Ljava/lang/Object;)Z"⟩ : MethodName) jdk_42_method_66_code 3 (some .boolean) :: ws) ({ frames := 0, cells := 0, slots := 0, locals := 0 } : Room)) (fun as_ U_ => as_ = #[(.ref a), (.ref a)] ∧ Z.Warmed39 U_.vm ∧ U_.heap = h0) (fun _ _ _ _ _ => True) (fun _ U_ o_ U2_ => ∃ v_ L_, o_ = .returned v_ ∧ (Q_rmEq Z a h0 n0) v_ U2_.heap L_ ∧ FrameEnd U_ o_ U2_ L_ ({ frames := 0, cells := 0, slots := 0, locals := 0 } : Room).cells ({ frames := 0, cells := 0, slots := 0, locals := 0 } : Room).slots) := by
  refine MetFree.of_bodySF (plainFor_of_name (by first | (simp [plainName, overriddenIn]; done) | decide +kernel : plainName "java/lang/String" = true)) hisR ?_
  intro p e s m args below meth c s₁ Bd hml0 hP hK
  obtain ⟨rfl, hZ, hh⟩ := hP
  have hx := Bd.exec
  have hby := Bd.bytes
  have hlk := Bd.notSynchronized
  have hml : c.maxLocals = 3 := hml0
  have hown : s.vm.findClass "java/lang/String" = some m.cls := findClass_of_methodNamed Bd.named
  have hnm := (name_of_methodNamed Bd.named Bd.method).1
  have X0 : Stand p l e ({ frames := 0, cells := 0, slots := 0, locals := 0 } : Room) s m #[(.ref a), (.ref a)] below meth c s₁ [] 0 0 := Stand.of_body Bd
  have e0 : s₁.heap = h0 := by rw [← hh, Bd.state]; rfl
  have N0 := Fr.nil n0
  show own_Go p e below (own_R s below (Q_rmEq Z a h0 n0) ({ frames := 0, cells := 0, slots := 0, locals := 0 } : Room).cells ({ frames := 0, cells := 0, slots := 0, locals := 0 } : Room).slots) (s₁.setTop (entryFrame m #[(.ref a), (.ref a)] 3))
  refine own_bk (S' := (s₁.setTop (mkF m 0 #[rv a, rv a, .unset] []))) (fun t_ kont => castTop (ef_rmEq m (a) (a)) kont) ?_
  refine own_bk (S' := (s₁.setTop (mkF m 1 #[rv a, rv a, .unset] [(.ref a)]))) (fun t_ kont => XS.aloadN X0.here hx rfl (hb hby d17_0) rfl rfl kont) ?_
  refine own_bk (S' := (s₁.setTop (mkF m 2 #[rv a, rv a, .unset] [(.ref a), (.ref a)]))) (fun t_ kont => XS.aloadN X0.here hx rfl (hb hby d17_1) rfl rfl kont) ?_
  refine own_bk (S' := (s₁.setTop (mkF m 5 #[rv a, rv a, .unset] []))) (fun t_ kont => Jvm.RoadKit.acmp (g := (mkF m 2 #[rv a, rv a, .unset] [(.ref a), (.ref a)])) X0 hx rfl rfl rfl (pc0 := 2) (pc' := 5) (same := true) rfl (hb hby d17_2) rfl (decide_eq_true rfl) (by decide) (by decide) kont) ?_
  refine own_bk (S' := (s₁.setTop (mkF m 6 #[rv a, rv a, .unset] [(.int (1 : Int32))]))) (fun t_ kont => XS.iconst X0.here hx rfl (hb hby d17_5) kont) ?_
  exact own_retN X0 hx hlk (t := .boolean) (w := (1 : Int32)) Bd.returns (by simp) (hb hby d17_6) rfl ⟨rfl, N0, e0⟩ (by decide) (by decide)
theorem ef_rm0 (m : MethodId) (x0 : Int32) (x1 : Int32) (x2 : Int32) (x3 : Int32) (x4 : Int32) (x5 : Int32) : entryFrame m #[(.int x0), (.int x1), (.int x2), (.int x3), (.int x4), (.int x5)] maxLocals = mkF m 0 #[.val (.int x0), .val (.int x1), .val (.int x2), .val (.int x3), .val (.int x4), .val (.int x5), .unset, .unset, .unset, .unset, .unset, .unset, .unset, .unset, .unset, .unset, .unset, .unset, .unset] [] := by first | (simp [entryFrame, mkF, argsToLocals, Value.category, maxLocals]; done) | rfl
def Q_rm0 (Z : State) (v0 v1 v2 v3 v4 v5 cz : Int32) (xs xm : Addr) (h0 : Heap) (n0 : Nat) (v : Option Value) (h : Heap) (L : List Loc) : Prop := v = some (.int 1) ∧ Fr n0 L
set_option maxRecDepth 65536 in
set_option maxHeartbeats 40000000 in
theorem rm0 (l : Launch) (Z : State) (a0 : Array Value) (hw : ∀ d ∈ tables_1, d.before a0 Z = true) (ws : List Jvm.Cond) (v0 v1 v2 v3 v4 v5 cz : Int32) (xs xm : Addr) (h0 : Heap) (n0 : Nat) (Z0 : n0 ≤ h0.size) (O : Old Z n0 h0) (SC : Sta Z Z.heap "java/lang/String" "COMPACT_STRINGS" "Z" (.int cz)) (hcz : ¬ cz = (0 : Int32)) (SS : Sta Z Z.heap "java/util/ImmutableCollections" "EMPTY_SET" "Ljava/util/ImmutableCollections$SetN;" (.ref xs)) (SM : Sta Z Z.heap "java/util/ImmutableCollections" "EMPTY_MAP" "Ljava/util/ImmutableCollections$MapN;" (.ref xm)) (ES : Exa Z Z.heap xs "java/util/ImmutableCollections$SetN") (EM : Exa Z Z.heap xm "java/util/ImmutableCollections$MapN") :
    MetFree l x (head1 (Jvm.Cond.code x code maxLocals ret :: ws) room_1) (fun as_ U_ => as_ = #[(.int v0), (.int v1), (.int v2), (.int v3), (.int v4), (.int v5)] ∧ Z.Warmed39 U_.vm ∧ U_.heap = h0) (fun _ _ _ _ _ => True) (fun _ U_ o_ U2_ => ∃ v_ L_, o_ = .returned v_ ∧ (Q_rm0 Z v0 v1 v2 v3 v4 v5 cz xs xm h0 n0) v_ U2_.heap L_ ∧ ReturnedEndW U_ o_ U2_ L_ room_1.cells room_1.slots) := by
  refine MetFree.of_bodySF (plainFor_of_name (by first | (simp [plainName, overriddenIn]; done) | decide +kernel : plainName "com/example/overweave/overweave/merge/AppLevelsPositionPinLaw" = true)) hisR ?_
  intro p e s m args below meth c s₁ Bd hml0 hP hK
  obtain ⟨rfl, hZ, hh⟩ := hP
  have hx := Bd.exec
  have hby := Bd.bytes
  have hlk := Bd.notSynchronized
  have hml : c.maxLocals = 19 := hml0
  have hown : s.vm.findClass "com/example/overweave/overweave/merge/AppLevelsPositionPinLaw" = some m.cls := findClass_of_methodNamed Bd.named
  have hnm := (name_of_methodNamed Bd.named Bd.method).1
  have X0 : Stand p l e room_1 (s.setVm s.vm) m #[(.int v0), (.int v1), (.int v2), (.int v3), (.int v4), (.int v5)] below meth c s₁ [] 0 0 := Stand.of_body Bd
  have hS : s.Since s.vm 0 := (State.WarmedH.refl s).since 0
  have hk0 : 0 ≤ h0.size := Nat.zero_le _
  have hwS : ∀ d ∈ Bundle.stringAtoms, d.before a0 Z = true := fun d hd => hw d ((by decide +kernel : ∀ d ∈ Bundle.stringAtoms, d ∈ tables_1) d hd)
  have e0 : s₁.heap = h0 := by rw [← hh, Bd.state]; rfl
  have N0 := Fr.nil n0
  show own_Go p e below (own_RW s below (Q_rm0 Z v0 v1 v2 v3 v4 v5 cz xs xm h0 n0) room_1.cells room_1.slots) (s₁.setTop (entryFrame m #[(.int v0), (.int v1), (.int v2), (.int v3), (.int v4), (.int v5)] maxLocals))
  refine own_bk (S' := (s₁.setTop (mkF m 0 #[iv v0, iv v1, iv v2, iv v3, iv v4, iv v5, .unset, .unset, .unset, .unset, .unset, .unset, .unset, .unset, .unset, .unset, .unset, .unset, .unset] []))) (fun t_ kont => castTop (ef_rm0 m (v0) (v1) (v2) (v3) (v4) (v5)) kont) ?_
  refine own_bk (S' := (s₁.setTop (mkF m 2 #[iv v0, iv v1, iv v2, iv v3, iv v4, iv v5, .unset, .unset, .unset, .unset, .unset, .unset, .unset, .unset, .unset, .unset, .unset, .unset, .unset] [(.int v5)]))) (fun t_ kont => XS.iload X0.here hx rfl (hb hby at_0) rfl kont) ?_
  refine own_bk (S' := (s₁.setTop (mkF m 3 #[iv v0, iv v1, iv v2, iv v3, iv v4, iv v5, .unset, .unset, .unset, .unset, .unset, .unset, .unset, .unset, .unset, .unset, .unset, .unset, .unset] [(.int (1 : Int32)), (.int v5)]))) (fun t_ kont => XS.iconst X0.here hx rfl (hb hby at_2) kont) ?_
  refine own_bk (S' := (s₁.setTop (mkF m 4 #[iv v0, iv v1, iv v2, iv v3, iv v4, iv v5, .unset, .unset, .unset, .unset, .unset, .unset, .unset, .unset, .unset, .unset, .unset, .unset, .unset] [(.int (v5 &&& (1 : Int32)))]))) (fun t_ kont => XS.iand X0.here hx rfl (hb hby at_3) rfl kont) ?_
  by_cases hc1 : ((v5 &&& (1 : Int32))) = ((0 : Int32))
  · refine own_bk (S' := (s₁.setTop (mkF m 11 #[iv v0, iv v1, iv v2, iv v3, iv v4, iv v5, .unset, .unset, .unset, .unset, .unset, .unset, .unset, .unset, .unset, .unset, .unset, .unset, .unset] []))) (fun t_ kont => XS.ifYes X0.here hx rfl (pc0 := 4) (pc' := 11) rfl (hb hby at_4) rfl ((if0 _ _).trans (teq (hc1)).1) (by decide) (by decide) kont) ?_
    refine own_bk (S' := (s₁.setTop (mkF m 12 #[iv v0, iv v1, iv v2, iv v3, iv v4, iv v5, .unset, .unset, .unset, .unset, .unset, .unset, .unset, .unset, .unset, .unset, .unset, .unset, .unset] [(.int (0 : Int32))]))) (fun t_ kont => XS.iconst X0.here hx rfl (hb hby at_11) kont) ?_
    refine own_bk (S' := (s₁.setTop (mkF m 14 #[iv v0, iv v1, iv v2, iv v3, iv v4, iv v5, iv (0 : Int32), .unset, .unset, .unset, .unset, .unset, .unset, .unset, .unset, .unset, .unset, .unset, .unset] []))) (fun t_ kont => XS.istore X0.here hx rfl (hb hby at_12) rfl (l' := #[iv v0, iv v1, iv v2, iv v3, iv v4, iv v5, iv (0 : Int32), .unset, .unset, .unset, .unset, .unset, .unset, .unset, .unset, .unset, .unset, .unset, .unset]) rfl kont) ?_
    refine own_bk (S' := (s₁.setTop (mkF m 15 #[iv v0, iv v1, iv v2, iv v3, iv v4, iv v5, iv (0 : Int32), .unset, .unset, .unset, .unset, .unset, .unset, .unset, .unset, .unset, .unset, .unset, .unset] [(.int v1)]))) (fun t_ kont => XS.iloadN X0.here hx rfl (hb hby at_14) rfl kont) ?_
    refine own_bk (S' := (s₁.setTop (mkF m 17 #[iv v0, iv v1, iv v2, iv v3, iv v4, iv v5, iv (0 : Int32), .unset, .unset, .unset, .unset, .unset, .unset, .unset, .unset, .unset, .unset, .unset, .unset] [(.int (2147483647 : Int32)), (.int v1)]))) (fun t_ kont => X0.ldcI hx hown (mvT hZ (hw _ (List.mem_of_getElem? (i := 0) rfl))) rfl (hb hby at_15) kont) ?_
    refine own_bk (S' := (s₁.setTop (mkF m 18 #[iv v0, iv v1, iv v2, iv v3, iv v4, iv v5, iv (0 : Int32), .unset, .unset, .unset, .unset, .unset, .unset, .unset, .unset, .unset, .unset, .unset, .unset] [(.int (v1 &&& (2147483647 : Int32)))]))) (fun t_ kont => XS.iand X0.here hx rfl (hb hby at_17) rfl kont) ?_
    refine own_bk (S' := (s₁.setTop (mkF m 20 #[iv v0, iv v1, iv v2, iv v3, iv v4, iv v5, iv (0 : Int32), iv (v1 &&& (2147483647 : Int32)), .unset, .unset, .unset, .unset, .unset, .unset, .unset, .unset, .unset, .unset, .unset] []))) (fun t_ kont => XS.istore X0.here hx rfl (hb hby at_18) rfl (l' := #[iv v0, iv v1, iv v2, iv v3, iv v4, iv v5, iv (0 : Int32), iv (v1 &&& (2147483647 : Int32)), .unset, .unset, .unset, .unset, .unset, .unset, .unset, .unset, .unset, .unset, .unset]) rfl kont) ?_
    refine own_bk (S' := (s₁.setTop (mkF m 21 #[iv v0, iv v1, iv v2, iv v3, iv v4, iv v5, iv (0 : Int32), iv (v1 &&& (2147483647 : Int32)), .unset, .unset, .unset, .unset, .unset, .unset, .unset, .unset, .unset, .unset, .unset] [(.int v2)]))) (fun t_ kont => XS.iloadN X0.here hx rfl (hb hby at_20) rfl kont) ?_
    refine own_bk (S' := (s₁.setTop (mkF m 23 #[iv v0, iv v1, iv v2, iv v3, iv v4, iv v5, iv (0 : Int32), iv (v1 &&& (2147483647 : Int32)), .unset, .unset, .unset, .unset, .unset, .unset, .unset, .unset, .unset, .unset, .unset] [(.int (2147483647 : Int32)), (.int v2)]))) (fun t_ kont => X0.ldcI hx hown (mvT hZ (hw _ (List.mem_of_getElem? (i := 0) rfl))) rfl (hb hby at_21) kont) ?_
    refine own_bk (S' := (s₁.setTop (mkF m 24 #[iv v0, iv v1, iv v2, iv v3, iv v4, iv v5, iv (0 : Int32), iv (v1 &&& (2147483647 : Int32)), .unset, .unset, .unset, .unset, .unset, .unset, .unset, .unset, .unset, .unset, .unset] [(.int (v2 &&& (2147483647 : Int32)))]))) (fun t_ kont => XS.iand X0.here hx rfl (hb hby at_23) rfl kont) ?_
    refine own_bk (S' := (s₁.setTop (mkF m 26 #[iv v0, iv v1, iv v2, iv v3, iv v4, iv v5, iv (0 : Int32), iv (v1 &&& (2147483647 : Int32)), iv (v2 &&& (2147483647 : Int32)), .unset, .unset, .unset, .unset, .unset, .unset, .unset, .unset, .unset, .unset] []))) (fun t_ kont => XS.istore X0.here hx rfl (hb hby at_24) rfl (l' := #[iv v0, iv v1, iv v2, iv v3, iv v4, iv v5, iv (0 : Int32), iv (v1 &&& (2147483647 : Int32)), iv (v2 &&& (2147483647 : Int32)), .unset, .unset, .unset, .unset, .unset, .unset, .unset, .unset, .unset, .unset]) rfl kont) ?_
    refine own_bk (S' := (s₁.setTop (mkF m 28 #[iv v0, iv v1, iv v2, iv v3, iv v4, iv v5, iv (0 : Int32), iv (v1 &&& (2147483647 : Int32)), iv (v2 &&& (2147483647 : Int32)), .unset, .unset, .unset, .unset, .unset, .unset, .unset, .unset, .unset, .unset] [(.int v4)]))) (fun t_ kont => XS.iload X0.here hx rfl (hb hby at_26) rfl kont) ?_
    refine own_bk (S' := (s₁.setTop (mkF m 30 #[iv v0, iv v1, iv v2, iv v3, iv v4, iv v5, iv (0 : Int32), iv (v1 &&& (2147483647 : Int32)), iv (v2 &&& (2147483647 : Int32)), .unset, .unset, .unset, .unset, .unset, .unset, .unset, .unset, .unset, .unset] [(.int (2147483647 : Int32)), (.int v4)]))) (fun t_ kont => X0.ldcI hx hown (mvT hZ (hw _ (List.mem_of_getElem? (i := 0) rfl))) rfl (hb hby at_28) kont) ?_
    refine own_bk (S' := (s₁.setTop (mkF m 31 #[iv v0, iv v1, iv v2, iv v3, iv v4, iv v5, iv (0 : Int32), iv (v1 &&& (2147483647 : Int32)), iv (v2 &&& (2147483647 : Int32)), .unset, .unset, .unset, .unset, .unset, .unset, .unset, .unset, .unset, .unset] [(.int (v4 &&& (2147483647 : Int32)))]))) (fun t_ kont => XS.iand X0.here hx rfl (hb hby at_30) rfl kont) ?_
    refine own_bk (S' := (s₁.setTop (mkF m 33 #[iv v0, iv v1, iv v2, iv v3, iv v4, iv v5, iv (0 : Int32), iv (v1 &&& (2147483647 : Int32)), iv (v2 &&& (2147483647 : Int32)), iv (v4 &&& (2147483647 : Int32)), .unset, .unset, .unset, .unset, .unset, .unset, .unset, .unset, .unset] []))) (fun t_ kont => XS.istore X0.here hx rfl (hb hby at_31) rfl (l' := #[iv v0, iv v1, iv v2, iv v3, iv v4, iv v5, iv (0 : Int32), iv (v1 &&& (2147483647 : Int32)), iv (v2 &&& (2147483647 : Int32)), iv (v4 &&& (2147483647 : Int32)), .unset, .unset, .unset, .unset, .unset, .unset, .unset, .unset, .unset]) rfl kont) ?_
    refine own_bk (S' := (s₁.setTop (mkF m 35 #[iv v0, iv v1, iv v2, iv v3, iv v4, iv v5, iv (0 : Int32), iv (v1 &&& (2147483647 : Int32)), iv (v2 &&& (2147483647 : Int32)), iv (v4 &&& (2147483647 : Int32)), .unset, .unset, .unset, .unset, .unset, .unset, .unset, .unset, .unset] [(.int v5)]))) (fun t_ kont => XS.iload X0.here hx rfl (hb hby at_33) rfl kont) ?_
    refine own_bk (S' := (s₁.setTop (mkF m 36 #[iv v0, iv v1, iv v2, iv v3, iv v4, iv v5, iv (0 : Int32), iv (v1 &&& (2147483647 : Int32)), iv (v2 &&& (2147483647 : Int32)), iv (v4 &&& (2147483647 : Int32)), .unset, .unset, .unset, .unset, .unset, .unset, .unset, .unset, .unset] [(.int (1 : Int32)), (.int v5)]))) (fun t_ kont => XS.iconst X0.here hx rfl (hb hby at_35) kont) ?_
    refine own_bk (S' := (s₁.setTop (mkF m 37 #[iv v0, iv v1, iv v2, iv v3, iv v4, iv v5, iv (0 : Int32), iv (v1 &&& (2147483647 : Int32)), iv (v2 &&& (2147483647 : Int32)), iv (v4 &&& (2147483647 : Int32)), .unset, .unset, .unset, .unset, .unset, .unset, .unset, .unset, .unset] [(.int (v5.toUInt32 >>> ((1 : Int32) &&& 31).toUInt32).toInt32)]))) (fun t_ kont => XS.iushr X0.here hx rfl (hb hby at_36) rfl kont) ?_
    refine own_bk (S' := (s₁.setTop (mkF m 39 #[iv v0, iv v1, iv v2, iv v3, iv v4, iv v5, iv (0 : Int32), iv (v1 &&& (2147483647 : Int32)), iv (v2 &&& (2147483647 : Int32)), iv (v4 &&& (2147483647 : Int32)), iv ((v5.toUInt32 >>> ((1 : Int32) &&& 31).toUInt32).toInt32), .unset, .unset, .unset, .unset, .unset, .unset, .unset, .unset] []))) (fun t_ kont => XS.istore X0.here hx rfl (hb hby at_37) rfl (l' := #[iv v0, iv v1, iv v2, iv v3, iv v4, iv v5, iv (0 : Int32), iv (v1 &&& (2147483647 : Int32)), iv (v2 &&& (2147483647 : Int32)), iv (v4 &&& (2147483647 : Int32)), iv ((v5.toUInt32 >>> ((1 : Int32) &&& 31).toUInt32).toInt32), .unset, .unset, .unset, .unset, .unset, .unset, .unset, .unset]) rfl kont) ?_
    have hmL := own_m31 v1
    generalize (v1 &&& (2147483647 : Int32)) = mL at hmL ⊢
    have hmC := own_m31 v2
    generalize (v2 &&& (2147483647 : Int32)) = mC at hmC ⊢
    have hsL := own_m31 v4
    generalize (v4 &&& (2147483647 : Int32)) = sL at hsL ⊢
    have hsC := own_u1 v5
    generalize (v5.toUInt32 >>> ((1 : Int32) &&& 31).toUInt32).toInt32 = sC at hsC ⊢
    refine own_bk (S' := (s₁.setTop (mkF m 40 #[iv v0, iv v1, iv v2, iv v3, iv v4, iv v5, iv (0 : Int32), iv mL, iv mC, iv sL, iv sC, .unset, .unset, .unset, .unset, .unset, .unset, .unset, .unset] [(.int (2 : Int32))]))) (fun t_ kont => XS.iconst X0.here hx rfl (hb hby at_39) kont) ?_
    obtain ⟨T2, h3, k4, X5, e6, E7, A8, st9⟩ := newP X0 hx hZ (hw _ (List.mem_of_getElem? (i := 1) rfl)) e0 (g := (mkF m 40 #[iv v0, iv v1, iv v2, iv v3, iv v4, iv v5, iv (0 : Int32), iv mL, iv mC, iv sL, iv sC, .unset, .unset, .unset, .unset, .unset, .unset, .unset, .unset] [(.int (2 : Int32))])) rfl (hb hby at_40) rfl (by decide : ¬ ((2 : Int32) < (0 : Int32))) (cap := 2) (by decide : (2 : Int32).toNatClampNeg ≤ 2) (by decide) (by decide) (by decide)
    obtain ⟨a10, g11⟩ : ∃ z, z = h0.size := ⟨_, rfl⟩
    rw [← g11] at A8 st9
    have ag13 : n0 ≤ a10 := Nat.le_trans Z0 (Nat.le_of_eq g11.symm)
    have Z14 := Nat.le_trans Z0 E7.1
    have hk15 := Nat.le_trans hk0 E7.1
    have O16 := O.ext E7
    have V12 : Arv Z h3 a10 k4 .char (2 : Int32) [] (.int (0 : Int32)) := (Arv.new A8 (by decide : ¬ ((2 : Int32) < (0 : Int32))))
    have V17 : Arv Z h3 a10 k4 .char (2 : Int32) [(.int (0 : Int32)), (.int (0 : Int32))] (.int (0 : Int32)) := (V12.pad (pad_rep [] (.int (0 : Int32)) 2))
    refine own_bk (S' := (T2.setTop (mkF m 42 #[iv v0, iv v1, iv v2, iv v3, iv v4, iv v5, iv (0 : Int32), iv mL, iv mC, iv sL, iv sC, .unset, .unset, .unset, .unset, .unset, .unset, .unset, .unset] [(.ref a10)]))) st9 ?_
    refine own_bk (S' := (T2.setTop (mkF m 44 #[iv v0, iv v1, iv v2, iv v3, iv v4, iv v5, iv (0 : Int32), iv mL, iv mC, iv sL, iv sC, rv a10, .unset, .unset, .unset, .unset, .unset, .unset, .unset] []))) (fun t_ kont => XS.astore X5.here hx rfl (hb hby at_42) rfl rfl (l' := #[iv v0, iv v1, iv v2, iv v3, iv v4, iv v5, iv (0 : Int32), iv mL, iv mC, iv sL, iv sC, rv a10, .unset, .unset, .unset, .unset, .unset, .unset, .unset]) rfl kont) ?_
    refine own_bk (S' := (T2.setTop (mkF m 46 #[iv v0, iv v1, iv v2, iv v3, iv v4, iv v5, iv (0 : Int32), iv mL, iv mC, iv sL, iv sC, rv a10, .unset, .unset, .unset, .unset, .unset, .unset, .unset] [(.ref a10)]))) (fun t_ kont => XS.aload X5.here hx rfl (hb hby at_44) rfl rfl kont) ?_
    refine own_bk (S' := (T2.setTop (mkF m 47 #[iv v0, iv v1, iv v2, iv v3, iv v4, iv v5, iv (0 : Int32), iv mL, iv mC, iv sL, iv sC, rv a10, .unset, .unset, .unset, .unset, .unset, .unset, .unset] [(.int (0 : Int32)), (.ref a10)]))) (fun t_ kont => XS.iconst X5.here hx rfl (hb hby at_46) kont) ?_
    refine own_bk (S' := (T2.setTop (mkF m 48 #[iv v0, iv v1, iv v2, iv v3, iv v4, iv v5, iv (0 : Int32), iv mL, iv mC, iv sL, iv sC, rv a10, .unset, .unset, .unset, .unset, .unset, .unset, .unset] [(.int v0), (.int (0 : Int32)), (.ref a10)]))) (fun t_ kont => XS.iloadN X5.here hx rfl (hb hby at_47) rfl kont) ?_
    refine own_bk (S' := (T2.setTop (mkF m 51 #[iv v0, iv v1, iv v2, iv v3, iv v4, iv v5, iv (0 : Int32), iv mL, iv mC, iv sL, iv sC, rv a10, .unset, .unset, .unset, .unset, .unset, .unset, .unset] [(.int (255 : Int32)), (.int v0), (.int (0 : Int32)), (.ref a10)]))) (fun t_ kont => XS.sipush X5.here hx rfl (hb hby at_48) kont) ?_
    refine own_bk (S' := (T2.setTop (mkF m 52 #[iv v0, iv v1, iv v2, iv v3, iv v4, iv v5, iv (0 : Int32), iv mL, iv mC, iv sL, iv sC, rv a10, .unset, .unset, .unset, .unset, .unset, .unset, .unset] [(.int (v0 &&& (255 : Int32))), (.int (0 : Int32)), (.ref a10)]))) (fun t_ kont => XS.iand X5.here hx rfl (hb hby at_51) rfl kont) ?_
    refine own_bk (S' := (T2.setTop (mkF m 53 #[iv v0, iv v1, iv v2, iv v3, iv v4, iv v5, iv (0 : Int32), iv mL, iv mC, iv sL, iv sC, rv a10, .unset, .unset, .unset, .unset, .unset, .unset, .unset] [(.int ((v0 &&& (255 : Int32)).toUInt32.toUInt16.toUInt32.toInt32)), (.int (0 : Int32)), (.ref a10)]))) (fun t_ kont => XS.i2c X5.here hx rfl (hb hby at_52) rfl kont) ?_
    obtain ⟨c18, A19, q20, S21, M22, H23, U24⟩ := id V17
    obtain ⟨T25, h26, X27, e28, W29, st30⟩ := stC X5 hx hZ e6 A19 (j := (0 : Int32)) (inb_of S21 ⟨(by decide : ¬ ((0 : Int32) < (0 : Int32))), (by decide : (0 : Int32) < (2 : Int32))⟩) (g := (mkF m 53 #[iv v0, iv v1, iv v2, iv v3, iv v4, iv v5, iv (0 : Int32), iv mL, iv mC, iv sL, iv sC, rv a10, .unset, .unset, .unset, .unset, .unset, .unset, .unset] [(.int ((v0 &&& (255 : Int32)).toUInt32.toUInt16.toUInt32.toInt32)), (.int (0 : Int32)), (.ref a10)])) rfl rfl (hb hby at_53)
    have N31 := Fr.snoc X27 N0 ag13
    have Z32 := Nat.le_trans Z14 (Keep.of_wr W29).1
    have hk33 := Nat.le_trans hk15 (Keep.of_wr W29).1
    have O34 := O16.wr W29 ag13
    have V35 : Arv Z h26 a10 k4 .char (2 : Int32) [(.int (nar .char ((v0 &&& (255 : Int32)).toUInt32.toUInt16.toUInt32.toInt32))), (.int (0 : Int32))] (.int (0 : Int32)) := (Arv.set A19 q20 S21 M22 H23 U24 (fits_nar_char _) W29 0 rfl (Nat.le_of_ble_eq_true rfl))
    refine own_bk (S' := (T25.setTop (mkF m 54 #[iv v0, iv v1, iv v2, iv v3, iv v4, iv v5, iv (0 : Int32), iv mL, iv mC, iv sL, iv sC, rv a10, .unset, .unset, .unset, .unset, .unset, .unset, .unset] []))) st30 ?_
    refine own_bk (S' := (T25.setTop (mkF m 56 #[iv v0, iv v1, iv v2, iv v3, iv v4, iv v5, iv (0 : Int32), iv mL, iv mC, iv sL, iv sC, rv a10, .unset, .unset, .unset, .unset, .unset, .unset, .unset] [(.ref a10)]))) (fun t_ kont => XS.aload X27.here hx rfl (hb hby at_54) rfl rfl kont) ?_
    refine own_bk (S' := (T25.setTop (mkF m 57 #[iv v0, iv v1, iv v2, iv v3, iv v4, iv v5, iv (0 : Int32), iv mL, iv mC, iv sL, iv sC, rv a10, .unset, .unset, .unset, .unset, .unset, .unset, .unset] [(.int (1 : Int32)), (.ref a10)]))) (fun t_ kont => XS.iconst X27.here hx rfl (hb hby at_56) kont) ?_
    refine own_bk (S' := (T25.setTop (mkF m 58 #[iv v0, iv v1, iv v2, iv v3, iv v4, iv v5, iv (0 : Int32), iv mL, iv mC, iv sL, iv sC, rv a10, .unset, .unset, .unset, .unset, .unset, .unset, .unset] [(.int v0), (.int (1 : Int32)), (.ref a10)]))) (fun t_ kont => XS.iloadN X27.here hx rfl (hb hby at_57) rfl kont) ?_
    refine own_bk (S' := (T25.setTop (mkF m 60 #[iv v0, iv v1, iv v2, iv v3, iv v4, iv v5, iv (0 : Int32), iv mL, iv mC, iv sL, iv sC, rv a10, .unset, .unset, .unset, .unset, .unset, .unset, .unset] [(.int (8 : Int32)), (.int v0), (.int (1 : Int32)), (.ref a10)]))) (fun t_ kont => XS.bipush X27.here hx rfl (hb hby at_58) kont) ?_
    refine own_bk (S' := (T25.setTop (mkF m 61 #[iv v0, iv v1, iv v2, iv v3, iv v4, iv v5, iv (0 : Int32), iv mL, iv mC, iv sL, iv sC, rv a10, .unset, .unset, .unset, .unset, .unset, .unset, .unset] [(.int (v0.toUInt32 >>> ((8 : Int32) &&& 31).toUInt32).toInt32), (.int (1 : Int32)), (.ref a10)]))) (fun t_ kont => XS.iushr X27.here hx rfl (hb hby at_60) rfl kont) ?_
    refine own_bk (S' := (T25.setTop (mkF m 64 #[iv v0, iv v1, iv v2, iv v3, iv v4, iv v5, iv (0 : Int32), iv mL, iv mC, iv sL, iv sC, rv a10, .unset, .unset, .unset, .unset, .unset, .unset, .unset] [(.int (255 : Int32)), (.int (v0.toUInt32 >>> ((8 : Int32) &&& 31).toUInt32).toInt32), (.int (1 : Int32)), (.ref a10)]))) (fun t_ kont => XS.sipush X27.here hx rfl (hb hby at_61) kont) ?_
    refine own_bk (S' := (T25.setTop (mkF m 65 #[iv v0, iv v1, iv v2, iv v3, iv v4, iv v5, iv (0 : Int32), iv mL, iv mC, iv sL, iv sC, rv a10, .unset, .unset, .unset, .unset, .unset, .unset, .unset] [(.int ((v0.toUInt32 >>> ((8 : Int32) &&& 31).toUInt32).toInt32 &&& (255 : Int32))), (.int (1 : Int32)), (.ref a10)]))) (fun t_ kont => XS.iand X27.here hx rfl (hb hby at_64) rfl kont) ?_
    refine own_bk (S' := (T25.setTop (mkF m 66 #[iv v0, iv v1, iv v2, iv v3, iv v4, iv v5, iv (0 : Int32), iv mL, iv mC, iv sL, iv sC, rv a10, .unset, .unset, .unset, .unset, .unset, .unset, .unset] [(.int (((v0.toUInt32 >>> ((8 : Int32) &&& 31).toUInt32).toInt32 &&& (255 : Int32)).toUInt32.toUInt16.toUInt32.toInt32)), (.int (1 : Int32)), (.ref a10)]))) (fun t_ kont => XS.i2c X27.here hx rfl (hb hby at_65) rfl kont) ?_
    obtain ⟨c36, A37, q38, S39, M40, H41, U42⟩ := id V35
    obtain ⟨T43, h44, X45, e46, W47, st48⟩ := stC X27 hx hZ e28 A37 (j := (1 : Int32)) (inb_of S39 ⟨(by decide : ¬ ((1 : Int32) < (0 : Int32))), (by decide : (1 : Int32) < (2 : Int32))⟩) (g := (mkF m 66 #[iv v0, iv v1, iv v2, iv v3, iv v4, iv v5, iv (0 : Int32), iv mL, iv mC, iv sL, iv sC, rv a10, .unset, .unset, .unset, .unset, .unset, .unset, .unset] [(.int (((v0.toUInt32 >>> ((8 : Int32) &&& 31).toUInt32).toInt32 &&& (255 : Int32)).toUInt32.toUInt16.toUInt32.toInt32)), (.int (1 : Int32)), (.ref a10)])) rfl rfl (hb hby at_66)
    have N49 := Fr.snoc X45 N31 ag13
    have Z50 := Nat.le_trans Z32 (Keep.of_wr W47).1
    have hk51 := Nat.le_trans hk33 (Keep.of_wr W47).1
    have O52 := O34.wr W47 ag13
    have V53 : Arv Z h44 a10 k4 .char (2 : Int32) [(.int (nar .char ((v0 &&& (255 : Int32)).toUInt32.toUInt16.toUInt32.toInt32))), (.int (nar .char (((v0.toUInt32 >>> ((8 : Int32) &&& 31).toUInt32).toInt32 &&& (255 : Int32)).toUInt32.toUInt16.toUInt32.toInt32)))] (.int (0 : Int32)) := (Arv.set A37 q38 S39 M40 H41 U42 (fits_nar_char _) W47 1 rfl (Nat.le_of_ble_eq_true rfl))
    refine own_bk (S' := (T43.setTop (mkF m 67 #[iv v0, iv v1, iv v2, iv v3, iv v4, iv v5, iv (0 : Int32), iv mL, iv mC, iv sL, iv sC, rv a10, .unset, .unset, .unset, .unset, .unset, .unset, .unset] []))) st48 ?_
    refine own_bk (S' := (T43.setTop (mkF m 68 #[iv v0, iv v1, iv v2, iv v3, iv v4, iv v5, iv (0 : Int32), iv mL, iv mC, iv sL, iv sC, rv a10, .unset, .unset, .unset, .unset, .unset, .unset, .unset] [(.int (2 : Int32))]))) (fun t_ kont => XS.iconst X45.here hx rfl (hb hby at_67) kont) ?_
    obtain ⟨T54, h55, k56, X57, e58, E59, A60, st61⟩ := newP X45 hx hZ (hw _ (List.mem_of_getElem? (i := 1) rfl)) e46 (g := (mkF m 68 #[iv v0, iv v1, iv v2, iv v3, iv v4, iv v5, iv (0 : Int32), iv mL, iv mC, iv sL, iv sC, rv a10, .unset, .unset, .unset, .unset, .unset, .unset, .unset] [(.int (2 : Int32))])) rfl (hb hby at_68) rfl (by decide : ¬ ((2 : Int32) < (0 : Int32))) (cap := 2) (by decide : (2 : Int32).toNatClampNeg ≤ 2) (by decide) (by decide) (by decide)
    obtain ⟨a62, g63⟩ : ∃ z, z = h44.size := ⟨_, rfl⟩
    rw [← g63] at A60 st61
    have ne65 : a10 ≠ a62 := Nat.ne_of_lt (Nat.lt_of_lt_of_le V53.lt (Nat.le_of_eq g63.symm))
    have ag66 : n0 ≤ a62 := Nat.le_trans Z50 (Nat.le_of_eq g63.symm)
    have V67 := (V53.ext E59)
    have Z68 := Nat.le_trans Z50 E59.1
    have hk69 := Nat.le_trans hk51 E59.1
    have O70 := O52.ext E59
    have V64 : Arv Z h55 a62 k56 .char (2 : Int32) [] (.int (0 : Int32)) := (Arv.new A60 (by decide : ¬ ((2 : Int32) < (0 : Int32))))
    have V71 : Arv Z h55 a62 k56 .char (2 : Int32) [(.int (0 : Int32)), (.int (0 : Int32))] (.int (0 : Int32)) := (V64.pad (pad_rep [] (.int (0 : Int32)) 2))
    refine own_bk (S' := (T54.setTop (mkF m 70 #[iv v0, iv v1, iv v2, iv v3, iv v4, iv v5, iv (0 : Int32), iv mL, iv mC, iv sL, iv sC, rv a10, .unset, .unset, .unset, .unset, .unset, .unset, .unset] [(.ref a62)]))) st61 ?_
    refine own_bk (S' := (T54.setTop (mkF m 72 #[iv v0, iv v1, iv v2, iv v3, iv v4, iv v5, iv (0 : Int32), iv mL, iv mC, iv sL, iv sC, rv a10, rv a62, .unset, .unset, .unset, .unset, .unset, .unset] []))) (fun t_ kont => XS.astore X57.here hx rfl (hb hby at_70) rfl rfl (l' := #[iv v0, iv v1, iv v2, iv v3, iv v4, iv v5, iv (0 : Int32), iv mL, iv mC, iv sL, iv sC, rv a10, rv a62, .unset, .unset, .unset, .unset, .unset, .unset]) rfl kont) ?_
    refine own_bk (S' := (T54.setTop (mkF m 74 #[iv v0, iv v1, iv v2, iv v3, iv v4, iv v5, iv (0 : Int32), iv mL, iv mC, iv sL, iv sC, rv a10, rv a62, .unset, .unset, .unset, .unset, .unset, .unset] [(.ref a62)]))) (fun t_ kont => XS.aload X57.here hx rfl (hb hby at_72) rfl rfl kont) ?_
    refine own_bk (S' := (T54.setTop (mkF m 75 #[iv v0, iv v1, iv v2, iv v3, iv v4, iv v5, iv (0 : Int32), iv mL, iv mC, iv sL, iv sC, rv a10, rv a62, .unset, .unset, .unset, .unset, .unset, .unset] [(.int (0 : Int32)), (.ref a62)]))) (fun t_ kont => XS.iconst X57.here hx rfl (hb hby at_74) kont) ?_
    refine own_bk (S' := (T54.setTop (mkF m 76 #[iv v0, iv v1, iv v2, iv v3, iv v4, iv v5, iv (0 : Int32), iv mL, iv mC, iv sL, iv sC, rv a10, rv a62, .unset, .unset, .unset, .unset, .unset, .unset] [(.int v3), (.int (0 : Int32)), (.ref a62)]))) (fun t_ kont => XS.iloadN X57.here hx rfl (hb hby at_75) rfl kont) ?_
    refine own_bk (S' := (T54.setTop (mkF m 79 #[iv v0, iv v1, iv v2, iv v3, iv v4, iv v5, iv (0 : Int32), iv mL, iv mC, iv sL, iv sC, rv a10, rv a62, .unset, .unset, .unset, .unset, .unset, .unset] [(.int (255 : Int32)), (.int v3), (.int (0 : Int32)), (.ref a62)]))) (fun t_ kont => XS.sipush X57.here hx rfl (hb hby at_76) kont) ?_
    refine own_bk (S' := (T54.setTop (mkF m 80 #[iv v0, iv v1, iv v2, iv v3, iv v4, iv v5, iv (0 : Int32), iv mL, iv mC, iv sL, iv sC, rv a10, rv a62, .unset, .unset, .unset, .unset, .unset, .unset] [(.int (v3 &&& (255 : Int32))), (.int (0 : Int32)), (.ref a62)]))) (fun t_ kont => XS.iand X57.here hx rfl (hb hby at_79) rfl kont) ?_
    refine own_bk (S' := (T54.setTop (mkF m 81 #[iv v0, iv v1, iv v2, iv v3, iv v4, iv v5, iv (0 : Int32), iv mL, iv mC, iv sL, iv sC, rv a10, rv a62, .unset, .unset, .unset, .unset, .unset, .unset] [(.int ((v3 &&& (255 : Int32)).toUInt32.toUInt16.toUInt32.toInt32)), (.int (0 : Int32)), (.ref a62)]))) (fun t_ kont => XS.i2c X57.here hx rfl (hb hby at_80) rfl kont) ?_
    obtain ⟨c72, A73, q74, S75, M76, H77, U78⟩ := id V71
    obtain ⟨T79, h80, X81, e82, W83, st84⟩ := stC X57 hx hZ e58 A73 (j := (0 : Int32)) (inb_of S75 ⟨(by decide : ¬ ((0 : Int32) < (0 : Int32))), (by decide : (0 : Int32) < (2 : Int32))⟩) (g := (mkF m 81 #[iv v0, iv v1, iv v2, iv v3, iv v4, iv v5, iv (0 : Int32), iv mL, iv mC, iv sL, iv sC, rv a10, rv a62, .unset, .unset, .unset, .unset, .unset, .unset] [(.int ((v3 &&& (255 : Int32)).toUInt32.toUInt16.toUInt32.toInt32)), (.int (0 : Int32)), (.ref a62)])) rfl rfl (hb hby at_81)
    have N85 := Fr.snoc X81 N49 ag66
    have V86 := (V67.other W83 ne65)
    have Z87 := Nat.le_trans Z68 (Keep.of_wr W83).1
    have hk88 := Nat.le_trans hk69 (Keep.of_wr W83).1
    have O89 := O70.wr W83 ag66
    have V90 : Arv Z h80 a62 k56 .char (2 : Int32) [(.int (nar .char ((v3 &&& (255 : Int32)).toUInt32.toUInt16.toUInt32.toInt32))), (.int (0 : Int32))] (.int (0 : Int32)) := (Arv.set A73 q74 S75 M76 H77 U78 (fits_nar_char _) W83 0 rfl (Nat.le_of_ble_eq_true rfl))
    refine own_bk (S' := (T79.setTop (mkF m 82 #[iv v0, iv v1, iv v2, iv v3, iv v4, iv v5, iv (0 : Int32), iv mL, iv mC, iv sL, iv sC, rv a10, rv a62, .unset, .unset, .unset, .unset, .unset, .unset] []))) st84 ?_
    refine own_bk (S' := (T79.setTop (mkF m 84 #[iv v0, iv v1, iv v2, iv v3, iv v4, iv v5, iv (0 : Int32), iv mL, iv mC, iv sL, iv sC, rv a10, rv a62, .unset, .unset, .unset, .unset, .unset, .unset] [(.ref a62)]))) (fun t_ kont => XS.aload X81.here hx rfl (hb hby at_82) rfl rfl kont) ?_
    refine own_bk (S' := (T79.setTop (mkF m 85 #[iv v0, iv v1, iv v2, iv v3, iv v4, iv v5, iv (0 : Int32), iv mL, iv mC, iv sL, iv sC, rv a10, rv a62, .unset, .unset, .unset, .unset, .unset, .unset] [(.int (1 : Int32)), (.ref a62)]))) (fun t_ kont => XS.iconst X81.here hx rfl (hb hby at_84) kont) ?_
    refine own_bk (S' := (T79.setTop (mkF m 86 #[iv v0, iv v1, iv v2, iv v3, iv v4, iv v5, iv (0 : Int32), iv mL, iv mC, iv sL, iv sC, rv a10, rv a62, .unset, .unset, .unset, .unset, .unset, .unset] [(.int v3), (.int (1 : Int32)), (.ref a62)]))) (fun t_ kont => XS.iloadN X81.here hx rfl (hb hby at_85) rfl kont) ?_
    refine own_bk (S' := (T79.setTop (mkF m 88 #[iv v0, iv v1, iv v2, iv v3, iv v4, iv v5, iv (0 : Int32), iv mL, iv mC, iv sL, iv sC, rv a10, rv a62, .unset, .unset, .unset, .unset, .unset, .unset] [(.int (8 : Int32)), (.int v3), (.int (1 : Int32)), (.ref a62)]))) (fun t_ kont => XS.bipush X81.here hx rfl (hb hby at_86) kont) ?_
    refine own_bk (S' := (T79.setTop (mkF m 89 #[iv v0, iv v1, iv v2, iv v3, iv v4, iv v5, iv (0 : Int32), iv mL, iv mC, iv sL, iv sC, rv a10, rv a62, .unset, .unset, .unset, .unset, .unset, .unset] [(.int (v3.toUInt32 >>> ((8 : Int32) &&& 31).toUInt32).toInt32), (.int (1 : Int32)), (.ref a62)]))) (fun t_ kont => XS.iushr X81.here hx rfl (hb hby at_88) rfl kont) ?_
    refine own_bk (S' := (T79.setTop (mkF m 92 #[iv v0, iv v1, iv v2, iv v3, iv v4, iv v5, iv (0 : Int32), iv mL, iv mC, iv sL, iv sC, rv a10, rv a62, .unset, .unset, .unset, .unset, .unset, .unset] [(.int (255 : Int32)), (.int (v3.toUInt32 >>> ((8 : Int32) &&& 31).toUInt32).toInt32), (.int (1 : Int32)), (.ref a62)]))) (fun t_ kont => XS.sipush X81.here hx rfl (hb hby at_89) kont) ?_
    refine own_bk (S' := (T79.setTop (mkF m 93 #[iv v0, iv v1, iv v2, iv v3, iv v4, iv v5, iv (0 : Int32), iv mL, iv mC, iv sL, iv sC, rv a10, rv a62, .unset, .unset, .unset, .unset, .unset, .unset] [(.int ((v3.toUInt32 >>> ((8 : Int32) &&& 31).toUInt32).toInt32 &&& (255 : Int32))), (.int (1 : Int32)), (.ref a62)]))) (fun t_ kont => XS.iand X81.here hx rfl (hb hby at_92) rfl kont) ?_
    refine own_bk (S' := (T79.setTop (mkF m 94 #[iv v0, iv v1, iv v2, iv v3, iv v4, iv v5, iv (0 : Int32), iv mL, iv mC, iv sL, iv sC, rv a10, rv a62, .unset, .unset, .unset, .unset, .unset, .unset] [(.int (((v3.toUInt32 >>> ((8 : Int32) &&& 31).toUInt32).toInt32 &&& (255 : Int32)).toUInt32.toUInt16.toUInt32.toInt32)), (.int (1 : Int32)), (.ref a62)]))) (fun t_ kont => XS.i2c X81.here hx rfl (hb hby at_93) rfl kont) ?_
    obtain ⟨c91, A92, q93, S94, M95, H96, U97⟩ := id V90
    obtain ⟨T98, h99, X100, e101, W102, st103⟩ := stC X81 hx hZ e82 A92 (j := (1 : Int32)) (inb_of S94 ⟨(by decide : ¬ ((1 : Int32) < (0 : Int32))), (by decide : (1 : Int32) < (2 : Int32))⟩) (g := (mkF m 94 #[iv v0, iv v1, iv v2, iv v3, iv v4, iv v5, iv (0 : Int32), iv mL, iv mC, iv sL, iv sC, rv a10, rv a62, .unset, .unset, .unset, .unset, .unset, .unset] [(.int (((v3.toUInt32 >>> ((8 : Int32) &&& 31).toUInt32).toInt32 &&& (255 : Int32)).toUInt32.toUInt16.toUInt32.toInt32)), (.int (1 : Int32)), (.ref a62)])) rfl rfl (hb hby at_94)
    have N104 := Fr.snoc X100 N85 ag66
    have V105 := (V86.other W102 ne65)
    have Z106 := Nat.le_trans Z87 (Keep.of_wr W102).1
    have hk107 := Nat.le_trans hk88 (Keep.of_wr W102).1
    have O108 := O89.wr W102 ag66
    have V109 : Arv Z h99 a62 k56 .char (2 : Int32) [(.int (nar .char ((v3 &&& (255 : Int32)).toUInt32.toUInt16.toUInt32.toInt32))), (.int (nar .char (((v3.toUInt32 >>> ((8 : Int32) &&& 31).toUInt32).toInt32 &&& (255 : Int32)).toUInt32.toUInt16.toUInt32.toInt32)))] (.int (0 : Int32)) := (Arv.set A92 q93 S94 M95 H96 U97 (fits_nar_char _) W102 1 rfl (Nat.le_of_ble_eq_true rfl))
    refine own_bk (S' := (T98.setTop (mkF m 95 #[iv v0, iv v1, iv v2, iv v3, iv v4, iv v5, iv (0 : Int32), iv mL, iv mC, iv sL, iv sC, rv a10, rv a62, .unset, .unset, .unset, .unset, .unset, .unset] []))) st103 ?_
    obtain ⟨T110, h111, X112, e113, E114, A115, D116, -, st117⟩ := newO X100 hx hZ hown (hw _ (List.mem_of_getElem? (i := 2) rfl)) (hw _ (List.mem_of_getElem? (i := 3) rfl)) (hw _ (List.mem_of_getElem? (i := 4) rfl)) e101 (g := (mkF m 95 #[iv v0, iv v1, iv v2, iv v3, iv v4, iv v5, iv (0 : Int32), iv mL, iv mC, iv sL, iv sC, rv a10, rv a62, .unset, .unset, .unset, .unset, .unset, .unset] [])) rfl (hb hby at_95) (by decide) (by decide)
    obtain ⟨a118, g119⟩ : ∃ z, z = h99.size := ⟨_, rfl⟩
    rw [← g119] at A115 D116 st117
    have ne120 : a10 ≠ a118 := Nat.ne_of_lt (Nat.lt_of_lt_of_le V105.lt (Nat.le_of_eq g119.symm))
    have ne121 : a62 ≠ a118 := Nat.ne_of_lt (Nat.lt_of_lt_of_le V109.lt (Nat.le_of_eq g119.symm))
    have ag122 : n0 ≤ a118 := Nat.le_trans Z106 (Nat.le_of_eq g119.symm)
    have V123 := (V105.ext E114)
    have V124 := (V109.ext E114)
    have Z125 := Nat.le_trans Z106 E114.1
    have hk126 := Nat.le_trans hk107 E114.1
    have O127 := O108.ext E114
    have F128 : Fld Z h111 a118 "java/lang/String" "value" "[B" .null := (D116 (Or.inr (hw _ (List.mem_of_getElem? (i := 30) rfl))) (ty := (.array .byte)) (by decide +kernel))
    have F129 : Fld Z h111 a118 "java/lang/String" "coder" "B" (.int (0 : Int32)) := (D116 (Or.inr (hw _ (List.mem_of_getElem? (i := 28) rfl))) (ty := .byte) (by decide +kernel))
    refine own_bk (S' := (T110.setTop (mkF m 98 #[iv v0, iv v1, iv v2, iv v3, iv v4, iv v5, iv (0 : Int32), iv mL, iv mC, iv sL, iv sC, rv a10, rv a62, .unset, .unset, .unset, .unset, .unset, .unset] [(.ref a118)]))) st117 ?_
    refine own_bk (S' := (T110.setTop (mkF m 99 #[iv v0, iv v1, iv v2, iv v3, iv v4, iv v5, iv (0 : Int32), iv mL, iv mC, iv sL, iv sC, rv a10, rv a62, .unset, .unset, .unset, .unset, .unset, .unset] [(.ref a118), (.ref a118)]))) (fun t_ kont => XS.dup X112.here hx rfl (hb hby at_98) rfl rfl kont) ?_
    refine own_bk (S' := (T110.setTop (mkF m 101 #[iv v0, iv v1, iv v2, iv v3, iv v4, iv v5, iv (0 : Int32), iv mL, iv mC, iv sL, iv sC, rv a10, rv a62, .unset, .unset, .unset, .unset, .unset, .unset] [(.ref a10), (.ref a118), (.ref a118)]))) (fun t_ kont => XS.aload X112.here hx rfl (hb hby at_99) rfl rfl kont) ?_
    have hp130 : ∀ c ∈ ([(nar .char ((v0 &&& (255 : Int32)).toUInt32.toUInt16.toUInt32.toInt32)), (nar .char (((v0.toUInt32 >>> ((8 : Int32) &&& 31).toUInt32).toInt32 &&& (255 : Int32)).toUInt32.toUInt16.toUInt32.toInt32))] : List Int32), ¬ c < 0 ∧ ¬ (255 : Int32) < c := by
      intro c hc; simp only [List.mem_cons, List.not_mem_nil, or_false] at hc; rcases hc with rfl | rfl
      · exact own_n255 v0
      · exact own_n255 _
    have hws131 : ∀ d ∈ StrChars.Road.words, d.before a0 Z = true := fun d hd => hw d ((by decide +kernel : ∀ d ∈ StrChars.Road.words, d ∈ tables_1) d hd)
    obtain ⟨_, _, ⟨T142, L143, k144, n145⟩, -, X146, ⟨Lc147, hQ148, l149, y150, z151⟩, st152⟩ := X112.specialBack hx (y := (⟨"java/lang/String", "<init>", "([C)V"⟩ : MethodName)) rfl hown (mvT hZ (hw _ (List.mem_of_getElem? (i := 5) rfl))) (mvT hZ (hw _ (List.mem_of_getElem? (i := 6) rfl))) (mvT hZ (hw _ (List.mem_of_getElem? (i := 7) rfl))) (by decide) (StrChars.Road.backV (W := 1) hZ hws131 (kI := 4) (hw _ (List.mem_of_getElem? (i := 3) rfl)) (cs := ([(nar .char ((v0 &&& (255 : Int32)).toUInt32.toUInt16.toUInt32.toInt32)), (nar .char (((v0.toUInt32 >>> ((8 : Int32) &&& 31).toUInt32).toInt32 &&& (255 : Int32)).toUInt32.toUInt16.toUInt32.toInt32))] : List Int32)) (bs := (([(nar .char ((v0 &&& (255 : Int32)).toUInt32.toUInt16.toUInt32.toInt32)), (nar .char (((v0.toUInt32 >>> ((8 : Int32) &&& 31).toUInt32).toInt32 &&& (255 : Int32)).toUInt32.toUInt16.toUInt32.toInt32))] : List Int32)).map (fun c => c.toInt8.toInt32)) (n := 2) ag122 Z125 A115 F128 F129 V123 (SC.ext O127.2) hcz rfl rfl (by decide) (by decide) hp130 rfl (by decide) (by decide)) (g := (mkF m 101 #[iv v0, iv v1, iv v2, iv v3, iv v4, iv v5, iv (0 : Int32), iv mL, iv mC, iv sL, iv sC, rv a10, rv a62, .unset, .unset, .unset, .unset, .unset, .unset] [(.ref a10), (.ref a118), (.ref a118)])) rfl (by rw [hml]; rfl) (Steps.refl _) (a := a118) (argsL := [(.ref a10)]) (rest := [(.ref a118)]) (lenOf (by decide +kernel : parseMethodDescriptor "([C)V" = some ⟨[(.array .char)], none⟩) rfl) rfl (by show 2 * 0 + _ ≤ _; exact Nat.le_of_eq rfl) (hb hby at_101) (fun _ _ => ⟨rfl, e113, (by decide : 3 + 1 ≤ _), (by decide : 8 + 2 ≤ _)⟩)
    dsimp only [Pt.U, Pt.locs, Pt.cells, Pt.slots] at X146 l149 y150 z151 st152 hQ148
    subst l149 y150 z151
    obtain ⟨rfl, N153, K132, g140, g135, t133, kb134, u137, u138, u139, g136, V141⟩ := hQ148
    have N155 := Fr.app N104 N153
    have V156 := (V123.keep K132 (ninS ne120 nin0))
    have V157 := (V124.keep K132 (ninS ne121 nin0))
    have E158 := (A115.keep K132)
    have Z159 := Nat.le_trans Z125 K132.1
    have hk160 := Nat.le_trans hk126 K132.1
    have O161 := O127.keep K132 (allS ag122 all0)
    refine own_tr (S' := (T142.setTop (mkF m 104 #[iv v0, iv v1, iv v2, iv v3, iv v4, iv v5, iv (0 : Int32), iv mL, iv mC, iv sL, iv sC, rv a10, rv a62, .unset, .unset, .unset, .unset, .unset, .unset] [(.ref a118)]))) st152 ?_
    refine own_bk (S' := (T142.setTop (mkF m 106 #[iv v0, iv v1, iv v2, iv v3, iv v4, iv v5, iv (0 : Int32), iv mL, iv mC, iv sL, iv sC, rv a10, rv a62, rv a118, .unset, .unset, .unset, .unset, .unset] []))) (fun t_ kont => XS.astore X146.here hx rfl (hb hby at_104) rfl rfl (l' := #[iv v0, iv v1, iv v2, iv v3, iv v4, iv v5, iv (0 : Int32), iv mL, iv mC, iv sL, iv sC, rv a10, rv a62, rv a118, .unset, .unset, .unset, .unset, .unset]) rfl kont) ?_
    obtain ⟨T162, h163, X164, e165, E166, A167, D168, -, st169⟩ := newO X146 hx hZ hown (hw _ (List.mem_of_getElem? (i := 2) rfl)) (hw _ (List.mem_of_getElem? (i := 3) rfl)) (hw _ (List.mem_of_getElem? (i := 4) rfl)) rfl (g := (mkF m 106 #[iv v0, iv v1, iv v2, iv v3, iv v4, iv v5, iv (0 : Int32), iv mL, iv mC, iv sL, iv sC, rv a10, rv a62, rv a118, .unset, .unset, .unset, .unset, .unset] [])) rfl (hb hby at_106) (by decide) (by decide)
    obtain ⟨a170, g171⟩ : ∃ z, z = T142.heap.size := ⟨_, rfl⟩
    rw [← g171] at A167 D168 st169
    have ne172 : a10 ≠ a170 := Nat.ne_of_lt (Nat.lt_of_lt_of_le V156.lt (Nat.le_of_eq g171.symm))
    have ne173 : a62 ≠ a170 := Nat.ne_of_lt (Nat.lt_of_lt_of_le V157.lt (Nat.le_of_eq g171.symm))
    have ne174 : a118 ≠ a170 := Nat.ne_of_lt (Nat.lt_of_lt_of_le E158.lt (Nat.le_of_eq g171.symm))
    have ag175 : n0 ≤ a170 := Nat.le_trans Z159 (Nat.le_of_eq g171.symm)
    have V176 := (V156.ext E166)
    have V177 := (V157.ext E166)
    have E178 := (E158.ext E166)
    have Z179 := Nat.le_trans Z159 E166.1
    have hk180 := Nat.le_trans hk160 E166.1
    have O181 := O161.ext E166
    have F182 : Fld Z h163 a170 "java/lang/String" "value" "[B" .null := (D168 (Or.inr (hw _ (List.mem_of_getElem? (i := 30) rfl))) (ty := (.array .byte)) (by decide +kernel))
    have F183 : Fld Z h163 a170 "java/lang/String" "coder" "B" (.int (0 : Int32)) := (D168 (Or.inr (hw _ (List.mem_of_getElem? (i := 28) rfl))) (ty := .byte) (by decide +kernel))
    refine own_bk (S' := (T162.setTop (mkF m 109 #[iv v0, iv v1, iv v2, iv v3, iv v4, iv v5, iv (0 : Int32), iv mL, iv mC, iv sL, iv sC, rv a10, rv a62, rv a118, .unset, .unset, .unset, .unset, .unset] [(.ref a170)]))) st169 ?_
    refine own_bk (S' := (T162.setTop (mkF m 110 #[iv v0, iv v1, iv v2, iv v3, iv v4, iv v5, iv (0 : Int32), iv mL, iv mC, iv sL, iv sC, rv a10, rv a62, rv a118, .unset, .unset, .unset, .unset, .unset] [(.ref a170), (.ref a170)]))) (fun t_ kont => XS.dup X164.here hx rfl (hb hby at_109) rfl rfl kont) ?_
    refine own_bk (S' := (T162.setTop (mkF m 112 #[iv v0, iv v1, iv v2, iv v3, iv v4, iv v5, iv (0 : Int32), iv mL, iv mC, iv sL, iv sC, rv a10, rv a62, rv a118, .unset, .unset, .unset, .unset, .unset] [(.ref a62), (.ref a170), (.ref a170)]))) (fun t_ kont => XS.aload X164.here hx rfl (hb hby at_110) rfl rfl kont) ?_
    have hp184 : ∀ c ∈ ([(nar .char ((v3 &&& (255 : Int32)).toUInt32.toUInt16.toUInt32.toInt32)), (nar .char (((v3.toUInt32 >>> ((8 : Int32) &&& 31).toUInt32).toInt32 &&& (255 : Int32)).toUInt32.toUInt16.toUInt32.toInt32))] : List Int32), ¬ c < 0 ∧ ¬ (255 : Int32) < c := by
      intro c hc; simp only [List.mem_cons, List.not_mem_nil, or_false] at hc; rcases hc with rfl | rfl
      · exact own_n255 v3
      · exact own_n255 _
    have hws185 : ∀ d ∈ StrChars.Road.words, d.before a0 Z = true := fun d hd => hw d ((by decide +kernel : ∀ d ∈ StrChars.Road.words, d ∈ tables_1) d hd)
    obtain ⟨_, _, ⟨T196, L197, k198, n199⟩, -, X200, ⟨Lc201, hQ202, l203, y204, z205⟩, st206⟩ := X164.specialBack hx (y := (⟨"java/lang/String", "<init>", "([C)V"⟩ : MethodName)) rfl hown (mvT hZ (hw _ (List.mem_of_getElem? (i := 5) rfl))) (mvT hZ (hw _ (List.mem_of_getElem? (i := 6) rfl))) (mvT hZ (hw _ (List.mem_of_getElem? (i := 7) rfl))) (by decide) (StrChars.Road.backV (W := 1) hZ hws185 (kI := 4) (hw _ (List.mem_of_getElem? (i := 3) rfl)) (cs := ([(nar .char ((v3 &&& (255 : Int32)).toUInt32.toUInt16.toUInt32.toInt32)), (nar .char (((v3.toUInt32 >>> ((8 : Int32) &&& 31).toUInt32).toInt32 &&& (255 : Int32)).toUInt32.toUInt16.toUInt32.toInt32))] : List Int32)) (bs := (([(nar .char ((v3 &&& (255 : Int32)).toUInt32.toUInt16.toUInt32.toInt32)), (nar .char (((v3.toUInt32 >>> ((8 : Int32) &&& 31).toUInt32).toInt32 &&& (255 : Int32)).toUInt32.toUInt16.toUInt32.toInt32))] : List Int32)).map (fun c => c.toInt8.toInt32)) (n := 2) ag175 Z179 A167 F182 F183 V177 (SC.ext O181.2) hcz rfl rfl (by decide) (by decide) hp184 rfl (by decide) (by decide)) (g := (mkF m 112 #[iv v0, iv v1, iv v2, iv v3, iv v4, iv v5, iv (0 : Int32), iv mL, iv mC, iv sL, iv sC, rv a10, rv a62, rv a118, .unset, .unset, .unset, .unset, .unset] [(.ref a62), (.ref a170), (.ref a170)])) rfl (by rw [hml]; rfl) (Steps.refl _) (a := a170) (argsL := [(.ref a62)]) (rest := [(.ref a170)]) (lenOf (by decide +kernel : parseMethodDescriptor "([C)V" = some ⟨[(.array .char)], none⟩) rfl) rfl (by show 2 * 0 + _ ≤ _; exact Nat.le_of_eq rfl) (hb hby at_112) (fun _ _ => ⟨rfl, e165, (by decide : 5 + 1 ≤ _), (by decide : 14 + 2 ≤ _)⟩)
    dsimp only [Pt.U, Pt.locs, Pt.cells, Pt.slots] at X200 l203 y204 z205 st206 hQ202
    subst l203 y204 z205
    obtain ⟨rfl, N207, K186, g194, g189, t187, kb188, u191, u192, u193, g190, V195⟩ := hQ202
    have N209 := Fr.app N155 N207
    have V210 := (V176.keep K186 (ninS ne172 nin0))
    have V211 := (V177.keep K186 (ninS ne173 nin0))
    have E212 := (E178.keep K186)
    have E213 := (A167.keep K186)
    have Z214 := Nat.le_trans Z179 K186.1
    have hk215 := Nat.le_trans hk180 K186.1
    have O216 := O181.keep K186 (allS ag175 all0)
    refine own_tr (S' := (T196.setTop (mkF m 115 #[iv v0, iv v1, iv v2, iv v3, iv v4, iv v5, iv (0 : Int32), iv mL, iv mC, iv sL, iv sC, rv a10, rv a62, rv a118, .unset, .unset, .unset, .unset, .unset] [(.ref a170)]))) st206 ?_
    refine own_bk (S' := (T196.setTop (mkF m 117 #[iv v0, iv v1, iv v2, iv v3, iv v4, iv v5, iv (0 : Int32), iv mL, iv mC, iv sL, iv sC, rv a10, rv a62, rv a118, rv a170, .unset, .unset, .unset, .unset] []))) (fun t_ kont => XS.astore X200.here hx rfl (hb hby at_115) rfl rfl (l' := #[iv v0, iv v1, iv v2, iv v3, iv v4, iv v5, iv (0 : Int32), iv mL, iv mC, iv sL, iv sC, rv a10, rv a62, rv a118, rv a170, .unset, .unset, .unset, .unset]) rfl kont) ?_
    obtain ⟨T217, h218, X219, e220, E221, A222, D223, -, st224⟩ := newO X200 hx hZ hown (hw _ (List.mem_of_getElem? (i := 31) rfl)) (hw _ (List.mem_of_getElem? (i := 32) rfl)) (hw _ (List.mem_of_getElem? (i := 33) rfl)) rfl (g := (mkF m 117 #[iv v0, iv v1, iv v2, iv v3, iv v4, iv v5, iv (0 : Int32), iv mL, iv mC, iv sL, iv sC, rv a10, rv a62, rv a118, rv a170, .unset, .unset, .unset, .unset] [])) rfl (hb hby at_117) (by decide) (by decide)
    obtain ⟨a225, g226⟩ : ∃ z, z = T196.heap.size := ⟨_, rfl⟩
    rw [← g226] at A222 D223 st224
    have ne227 : a10 ≠ a225 := Nat.ne_of_lt (Nat.lt_of_lt_of_le V210.lt (Nat.le_of_eq g226.symm))
    have ne228 : a62 ≠ a225 := Nat.ne_of_lt (Nat.lt_of_lt_of_le V211.lt (Nat.le_of_eq g226.symm))
    have ne229 : a118 ≠ a225 := Nat.ne_of_lt (Nat.lt_of_lt_of_le E212.lt (Nat.le_of_eq g226.symm))
    have ne230 : a170 ≠ a225 := Nat.ne_of_lt (Nat.lt_of_lt_of_le E213.lt (Nat.le_of_eq g226.symm))
    have ag231 : n0 ≤ a225 := Nat.le_trans Z214 (Nat.le_of_eq g226.symm)
    have V232 := (V210.ext E221)
    have V233 := (V211.ext E221)
    have E234 := (E212.ext E221)
    have E235 := (E213.ext E221)
    have Z236 := Nat.le_trans Z214 E221.1
    have hk237 := Nat.le_trans hk215 E221.1
    have O238 := O216.ext E221
    have F239 : Fld Z h218 a225 "com/example/overweave/overweave/model/Position" "file" "Ljava/lang/String;" .null := (D223 (Or.inr (hw _ (List.mem_of_getElem? (i := 51) rfl))) (ty := (.object "java/lang/String")) (by decide +kernel))
    have F240 : Fld Z h218 a225 "com/example/overweave/overweave/model/Position" "line" "I" (.int (0 : Int32)) := (D223 (Or.inr (hw _ (List.mem_of_getElem? (i := 53) rfl))) (ty := .int) (by decide +kernel))
    have F241 : Fld Z h218 a225 "com/example/overweave/overweave/model/Position" "column" "I" (.int (0 : Int32)) := (D223 (Or.inr (hw _ (List.mem_of_getElem? (i := 55) rfl))) (ty := .int) (by decide +kernel))
    refine own_bk (S' := (T217.setTop (mkF m 120 #[iv v0, iv v1, iv v2, iv v3, iv v4, iv v5, iv (0 : Int32), iv mL, iv mC, iv sL, iv sC, rv a10, rv a62, rv a118, rv a170, .unset, .unset, .unset, .unset] [(.ref a225)]))) st224 ?_
    refine own_bk (S' := (T217.setTop (mkF m 121 #[iv v0, iv v1, iv v2, iv v3, iv v4, iv v5, iv (0 : Int32), iv mL, iv mC, iv sL, iv sC, rv a10, rv a62, rv a118, rv a170, .unset, .unset, .unset, .unset] [(.ref a225), (.ref a225)]))) (fun t_ kont => XS.dup X219.here hx rfl (hb hby at_120) rfl rfl kont) ?_
    refine own_bk (S' := (T217.setTop (mkF m 123 #[iv v0, iv v1, iv v2, iv v3, iv v4, iv v5, iv (0 : Int32), iv mL, iv mC, iv sL, iv sC, rv a10, rv a62, rv a118, rv a170, .unset, .unset, .unset, .unset] [(.ref a118), (.ref a225), (.ref a225)]))) (fun t_ kont => XS.aload X219.here hx rfl (hb hby at_121) rfl rfl kont) ?_
    refine own_bk (S' := (T217.setTop (mkF m 125 #[iv v0, iv v1, iv v2, iv v3, iv v4, iv v5, iv (0 : Int32), iv mL, iv mC, iv sL, iv sC, rv a10, rv a62, rv a118, rv a170, .unset, .unset, .unset, .unset] [(.int mL), (.ref a118), (.ref a225), (.ref a225)]))) (fun t_ kont => XS.iload X219.here hx rfl (hb hby at_123) rfl kont) ?_
    refine own_bk (S' := (T217.setTop (mkF m 127 #[iv v0, iv v1, iv v2, iv v3, iv v4, iv v5, iv (0 : Int32), iv mL, iv mC, iv sL, iv sC, rv a10, rv a62, rv a118, rv a170, .unset, .unset, .unset, .unset] [(.int mC), (.int mL), (.ref a118), (.ref a225), (.ref a225)]))) (fun t_ kont => XS.iload X219.here hx rfl (hb hby at_125) rfl kont) ?_
    obtain ⟨_, _, ⟨T247, L248, k249, n250⟩, -, X251, hS2_, hgr_, ⟨Lc252, hQ253, l254, y255, z256⟩, st257⟩ := X219.specialBackS hx (y := (⟨"com/example/overweave/overweave/model/Position", "<init>", "(Ljava/lang/String;II)V"⟩ : MethodName)) rfl hown (mvT hZ (hw _ (List.mem_of_getElem? (i := 34) rfl))) (mvT hZ (hw _ (List.mem_of_getElem? (i := 35) rfl))) (mvT hZ (hw _ (List.mem_of_getElem? (i := 36) rfl))) (by decide) (backOfS (W := 1) (rmPos l Z a0 hw [] a225 a118 mL mC h218 n0 Z236 O238 A222 ag231 F239 F240 F241 hmL hmC) hZ (hw _ (List.mem_of_getElem? (i := 36) rfl)) (hw _ (List.mem_of_getElem? (i := 33) rfl)) (by decide) (by decide)) (g := (mkF m 127 #[iv v0, iv v1, iv v2, iv v3, iv v4, iv v5, iv (0 : Int32), iv mL, iv mC, iv sL, iv sC, rv a10, rv a62, rv a118, rv a170, .unset, .unset, .unset, .unset] [(.int mC), (.int mL), (.ref a118), (.ref a225), (.ref a225)])) rfl (by rw [hml]; rfl) (Steps.refl _) (a := a225) (argsL := [(.ref a118), (.int mL), (.int mC)]) (rest := [(.ref a225)]) (lenOf (by decide +kernel : parseMethodDescriptor "(Ljava/lang/String;II)V" = some ⟨[(.object "java/lang/String"), .int, .int], none⟩) rfl) rfl (by show 2 * 0 + _ ≤ _; exact Nat.le_of_eq rfl) (hb hby at_127) (fun _ _ => ⟨rfl, e220, (by decide : 7 + 2 ≤ _), (by decide : 19 + 20 ≤ _)⟩)
    dsimp only [Pt.U, Pt.locs, Pt.cells, Pt.slots] at X251 l254 y255 z256 st257 hQ253 hS2_ hgr_
    subst l254 y255 z256
    obtain ⟨X258, hS, hZ, hown⟩ := rebS hS (by rw [show T217.heap = h218 from e220]; exact hk237) X251 hS2_ hgr_ hZ hown
    obtain ⟨rfl, N259, O243, K242, g244, g245, g246⟩ := hQ253
    have N261 := Fr.app N209 N259
    have V262 := (V232.keep K242 (ninS ne227 nin0))
    have V263 := (V233.keep K242 (ninS ne228 nin0))
    have E264 := (E234.keep K242)
    have E265 := (E235.keep K242)
    have E266 := (A222.keep K242)
    have Z267 := Nat.le_trans Z236 K242.1
    have O268 := O238.keep K242 (allS ag231 all0)
    refine own_tr (S' := (T247.setTop (mkF m 130 #[iv v0, iv v1, iv v2, iv v3, iv v4, iv v5, iv (0 : Int32), iv mL, iv mC, iv sL, iv sC, rv a10, rv a62, rv a118, rv a170, .unset, .unset, .unset, .unset] [(.ref a225)]))) st257 ?_
    refine own_bk (S' := (T247.setTop (mkF m 132 #[iv v0, iv v1, iv v2, iv v3, iv v4, iv v5, iv (0 : Int32), iv mL, iv mC, iv sL, iv sC, rv a10, rv a62, rv a118, rv a170, rv a225, .unset, .unset, .unset] []))) (fun t_ kont => XS.astore X258.here hx rfl (hb hby at_130) rfl rfl (l' := #[iv v0, iv v1, iv v2, iv v3, iv v4, iv v5, iv (0 : Int32), iv mL, iv mC, iv sL, iv sC, rv a10, rv a62, rv a118, rv a170, rv a225, .unset, .unset, .unset]) rfl kont) ?_
    refine own_bk (S' := (T247.setTop (mkF m 134 #[iv v0, iv v1, iv v2, iv v3, iv v4, iv v5, iv (0 : Int32), iv mL, iv mC, iv sL, iv sC, rv a10, rv a62, rv a118, rv a170, rv a225, .unset, .unset, .unset] [(.int (0 : Int32))]))) (fun t_ kont => XS.iload X258.here hx rfl (hb hby at_132) rfl kont) ?_
    refine own_bk (S' := (T247.setTop (mkF m 153 #[iv v0, iv v1, iv v2, iv v3, iv v4, iv v5, iv (0 : Int32), iv mL, iv mC, iv sL, iv sC, rv a10, rv a62, rv a118, rv a170, rv a225, .unset, .unset, .unset] []))) (fun t_ kont => XS.ifYes X258.here hx rfl (pc0 := 134) (pc' := 153) rfl (hb hby at_134) rfl ((if0 _ _).trans (teq (by decide : ((0 : Int32)) = ((0 : Int32)))).1) (by decide) (by decide) kont) ?_
    refine own_bk (S' := (T247.setTop (mkF m 154 #[iv v0, iv v1, iv v2, iv v3, iv v4, iv v5, iv (0 : Int32), iv mL, iv mC, iv sL, iv sC, rv a10, rv a62, rv a118, rv a170, rv a225, .unset, .unset, .unset] [.null]))) (fun t_ kont => XS.aconstNull X258.here hx rfl (hb hby at_153) kont) ?_
    refine own_bk (S' := (T247.setTop (mkF m 156 #[iv v0, iv v1, iv v2, iv v3, iv v4, iv v5, iv (0 : Int32), iv mL, iv mC, iv sL, iv sC, rv a10, rv a62, rv a118, rv a170, rv a225, .val .null, .unset, .unset] []))) (fun t_ kont => XS.astore X258.here hx rfl (hb hby at_154) rfl rfl (l' := #[iv v0, iv v1, iv v2, iv v3, iv v4, iv v5, iv (0 : Int32), iv mL, iv mC, iv sL, iv sC, rv a10, rv a62, rv a118, rv a170, rv a225, .val .null, .unset, .unset]) rfl kont) ?_
    obtain ⟨T269, h270, X271, e272, E273, A274, D275, -, st276⟩ := newO X258 hx hZ hown (hw _ (List.mem_of_getElem? (i := 56) rfl)) (hw _ (List.mem_of_getElem? (i := 57) rfl)) (hw _ (List.mem_of_getElem? (i := 58) rfl)) rfl (g := (mkF m 156 #[iv v0, iv v1, iv v2, iv v3, iv v4, iv v5, iv (0 : Int32), iv mL, iv mC, iv sL, iv sC, rv a10, rv a62, rv a118, rv a170, rv a225, .val .null, .unset, .unset] [])) rfl (hb hby at_156) (by decide) (by decide)
    obtain ⟨a277, g278⟩ : ∃ z, z = T247.heap.size := ⟨_, rfl⟩
    rw [← g278] at A274 D275 st276
    have ne279 : a10 ≠ a277 := Nat.ne_of_lt (Nat.lt_of_lt_of_le V262.lt (Nat.le_of_eq g278.symm))
    have ne280 : a62 ≠ a277 := Nat.ne_of_lt (Nat.lt_of_lt_of_le V263.lt (Nat.le_of_eq g278.symm))
    have ne281 : a118 ≠ a277 := Nat.ne_of_lt (Nat.lt_of_lt_of_le E264.lt (Nat.le_of_eq g278.symm))
    have ne282 : a170 ≠ a277 := Nat.ne_of_lt (Nat.lt_of_lt_of_le E265.lt (Nat.le_of_eq g278.symm))
    have ne283 : a225 ≠ a277 := Nat.ne_of_lt (Nat.lt_of_lt_of_le E266.lt (Nat.le_of_eq g278.symm))
    have ag284 : n0 ≤ a277 := Nat.le_trans Z267 (Nat.le_of_eq g278.symm)
    have V285 := (V262.ext E273)
    have V286 := (V263.ext E273)
    have E287 := (E264.ext E273)
    have E288 := (E265.ext E273)
    have E289 := (E266.ext E273)
    have F290 := (g244.ext E273)
    have F291 := (g245.ext E273)
    have F292 := (g246.ext E273)
    have Z293 := Nat.le_trans Z267 E273.1
    have hk294 := Nat.le_trans (Nat.le_refl _) E273.1
    have O295 := O243.ext E273
    have F296 : Fld Z h270 a277 "com/example/overweave/overweave/merge/SdkLevels$App" "main" "Lcom/example/overweave/overweave/model/Position;" .null := (D275 (Or.inr (hw _ (List.mem_of_getElem? (i := 89) rfl))) (ty := (.object "com/example/overweave/overweave/model/Position")) (by decide +kernel))
    have F297 : Fld Z h270 a277 "com/example/overweave/overweave/merge/SdkLevels$App" "usesSdk" "Lcom/example/overweave/overweave/model/Position;" .null := (D275 (Or.inr (hw _ (List.mem_of_getElem? (i := 91) rfl))) (ty := (.object "com/example/overweave/overweave/model/Position")) (by decide +kernel))
    have F298 : Fld Z h270 a277 "com/example/overweave/overweave/merge/SdkLevels$App" "minAttribute" "Lcom/example/overweave/overweave/model/Attribute;" .null := (D275 (Or.inr (hw _ (List.mem_of_getElem? (i := 93) rfl))) (ty := (.object "com/example/overweave/overweave/model/Attribute")) (by decide +kernel))
    have F299 : Fld Z h270 a277 "com/example/overweave/overweave/merge/SdkLevels$App" "targetAttribute" "Lcom/example/overweave/overweave/model/Attribute;" .null := (D275 (Or.inr (hw _ (List.mem_of_getElem? (i := 95) rfl))) (ty := (.object "com/example/overweave/overweave/model/Attribute")) (by decide +kernel))
    have F300 : Fld Z h270 a277 "com/example/overweave/overweave/merge/SdkLevels$App" "overriding" "Ljava/util/Set;" .null := (D275 (Or.inr (hw _ (List.mem_of_getElem? (i := 97) rfl))) (ty := (.object "java/util/Set")) (by decide +kernel))
    have F301 : Fld Z h270 a277 "com/example/overweave/overweave/merge/SdkLevels$App" "properties" "Ljava/util/Map;" .null := (D275 (Or.inr (hw _ (List.mem_of_getElem? (i := 99) rfl))) (ty := (.object "java/util/Map")) (by decide +kernel))
    refine own_bk (S' := (T269.setTop (mkF m 159 #[iv v0, iv v1, iv v2, iv v3, iv v4, iv v5, iv (0 : Int32), iv mL, iv mC, iv sL, iv sC, rv a10, rv a62, rv a118, rv a170, rv a225, .val .null, .unset, .unset] [(.ref a277)]))) st276 ?_
    refine own_bk (S' := (T269.setTop (mkF m 160 #[iv v0, iv v1, iv v2, iv v3, iv v4, iv v5, iv (0 : Int32), iv mL, iv mC, iv sL, iv sC, rv a10, rv a62, rv a118, rv a170, rv a225, .val .null, .unset, .unset] [(.ref a277), (.ref a277)]))) (fun t_ kont => XS.dup X271.here hx rfl (hb hby at_159) rfl rfl kont) ?_
    refine own_bk (S' := (T269.setTop (mkF m 162 #[iv v0, iv v1, iv v2, iv v3, iv v4, iv v5, iv (0 : Int32), iv mL, iv mC, iv sL, iv sC, rv a10, rv a62, rv a118, rv a170, rv a225, .val .null, .unset, .unset] [(.ref a225), (.ref a277), (.ref a277)]))) (fun t_ kont => XS.aload X271.here hx rfl (hb hby at_160) rfl rfl kont) ?_
    refine own_bk (S' := (T269.setTop (mkF m 164 #[iv v0, iv v1, iv v2, iv v3, iv v4, iv v5, iv (0 : Int32), iv mL, iv mC, iv sL, iv sC, rv a10, rv a62, rv a118, rv a170, rv a225, .val .null, .unset, .unset] [.null, (.ref a225), (.ref a277), (.ref a277)]))) (fun t_ kont => XS.aload X271.here hx rfl (hb hby at_162) rfl rfl kont) ?_
    refine own_bk (S' := (T269.setTop (mkF m 165 #[iv v0, iv v1, iv v2, iv v3, iv v4, iv v5, iv (0 : Int32), iv mL, iv mC, iv sL, iv sC, rv a10, rv a62, rv a118, rv a170, rv a225, .val .null, .unset, .unset] [.null, .null, (.ref a225), (.ref a277), (.ref a277)]))) (fun t_ kont => XS.aconstNull X271.here hx rfl (hb hby at_164) kont) ?_
    refine own_bk (S' := (T269.setTop (mkF m 166 #[iv v0, iv v1, iv v2, iv v3, iv v4, iv v5, iv (0 : Int32), iv mL, iv mC, iv sL, iv sC, rv a10, rv a62, rv a118, rv a170, rv a225, .val .null, .unset, .unset] [.null, .null, .null, (.ref a225), (.ref a277), (.ref a277)]))) (fun t_ kont => XS.aconstNull X271.here hx rfl (hb hby at_165) kont) ?_
    obtain ⟨_, _, ⟨T302, L303, k304, n305⟩, -, X306, ⟨Lc307, hQ308, l309, y310, z311⟩, st312⟩ := Jvm.LawKit.callS X271 hx (y := (⟨"java/util/Set", "of", "()Ljava/util/Set;"⟩ : MethodName)) hown (mvT hZ (hw _ (List.mem_of_getElem? (i := 59) rfl))) (mvT hZ (hw _ (List.mem_of_getElem? (i := 60) rfl))) (mvT hZ (hw _ (List.mem_of_getElem? (i := 61) rfl))) (mvT hZ (hw _ (List.mem_of_getElem? (i := 62) rfl))) (by decide) (backOf (W := 6) (rmSo l Z a0 hw [] xs h270 n0 Z293 (SS.ext O295.2)) hZ (hw _ (List.mem_of_getElem? (i := 62) rfl)) (hw _ (List.mem_of_getElem? (i := 61) rfl)) (by decide) (by decide)) (g := (mkF m 166 #[iv v0, iv v1, iv v2, iv v3, iv v4, iv v5, iv (0 : Int32), iv mL, iv mC, iv sL, iv sC, rv a10, rv a62, rv a118, rv a170, rv a225, .val .null, .unset, .unset] [.null, .null, .null, (.ref a225), (.ref a277), (.ref a277)])) rfl (by rw [hml]; rfl) (argsL := []) (rest := [.null, .null, .null, (.ref a225), (.ref a277), (.ref a277)]) (lenOf (by decide +kernel : parseMethodDescriptor "()Ljava/util/Set;" = some ⟨[], some (.object "java/util/Set")⟩) rfl) rfl (by show 2 * 0 + _ ≤ _; exact Nat.le_of_eq rfl) (hb hby at_166) (fun _ _ => ⟨rfl, e272, (by decide : 10 + 0 ≤ _), (by decide : 45 + 0 ≤ _)⟩)
    dsimp only [Pt.U, Pt.locs, Pt.cells, Pt.slots] at X306 l309 y310 z311 st312 hQ308
    subst l309 y310 z311
    obtain ⟨rfl, N313, e314⟩ := hQ308
    have N315 := Fr.app N261 N313
    refine own_bk (S' := (T302.setTop (mkF m 169 #[iv v0, iv v1, iv v2, iv v3, iv v4, iv v5, iv (0 : Int32), iv mL, iv mC, iv sL, iv sC, rv a10, rv a62, rv a118, rv a170, rv a225, .val .null, .unset, .unset] [(.ref xs), .null, .null, .null, (.ref a225), (.ref a277), (.ref a277)]))) st312 ?_
    obtain ⟨_, _, ⟨T316, L317, k318, n319⟩, -, X320, ⟨Lc321, hQ322, l323, y324, z325⟩, st326⟩ := Jvm.LawKit.callS X306 hx (y := (⟨"java/util/Map", "of", "()Ljava/util/Map;"⟩ : MethodName)) hown (mvT hZ (hw _ (List.mem_of_getElem? (i := 65) rfl))) (mvT hZ (hw _ (List.mem_of_getElem? (i := 66) rfl))) (mvT hZ (hw _ (List.mem_of_getElem? (i := 67) rfl))) (mvT hZ (hw _ (List.mem_of_getElem? (i := 68) rfl))) (by decide) (backOf (W := 7) (rmMo l Z a0 hw [] xm h270 n0 Z293 (SM.ext O295.2)) hZ (hw _ (List.mem_of_getElem? (i := 68) rfl)) (hw _ (List.mem_of_getElem? (i := 67) rfl)) (by decide) (by decide)) (g := (mkF m 169 #[iv v0, iv v1, iv v2, iv v3, iv v4, iv v5, iv (0 : Int32), iv mL, iv mC, iv sL, iv sC, rv a10, rv a62, rv a118, rv a170, rv a225, .val .null, .unset, .unset] [(.ref xs), .null, .null, .null, (.ref a225), (.ref a277), (.ref a277)])) rfl (by rw [hml]; rfl) (argsL := []) (rest := [(.ref xs), .null, .null, .null, (.ref a225), (.ref a277), (.ref a277)]) (lenOf (by decide +kernel : parseMethodDescriptor "()Ljava/util/Map;" = some ⟨[], some (.object "java/util/Map")⟩) rfl) rfl (by show 2 * 0 + _ ≤ _; exact Nat.le_of_eq rfl) (hb hby at_169) (fun _ _ => ⟨rfl, e314, (by decide : 10 + 0 ≤ _), (by decide : 45 + 0 ≤ _)⟩)
    dsimp only [Pt.U, Pt.locs, Pt.cells, Pt.slots] at X320 l323 y324 z325 st326 hQ322
    subst l323 y324 z325
    obtain ⟨rfl, N327, e328⟩ := hQ322
    have N329 := Fr.app N315 N327
    refine own_bk (S' := (T316.setTop (mkF m 172 #[iv v0, iv v1, iv v2, iv v3, iv v4, iv v5, iv (0 : Int32), iv mL, iv mC, iv sL, iv sC, rv a10, rv a62, rv a118, rv a170, rv a225, .val .null, .unset, .unset] [(.ref xm), (.ref xs), .null, .null, .null, (.ref a225), (.ref a277), (.ref a277)]))) st326 ?_
    obtain ⟨_, _, ⟨T334, L335, k336, n337⟩, -, X338, hS2_, hgr_, ⟨Lc339, hQ340, l341, y342, z343⟩, st344⟩ := X320.specialBackS hx (y := (⟨"com/example/overweave/overweave/merge/SdkLevels$App", "<init>", "(Lcom/example/overweave/overweave/model/Position;Lcom/example/overweave/overweave/model/Position;Lcom/example/overweave/overweave/model/Attribute;Lcom/example/overweave/overweave/model/Attribute;Ljava/util/Set;Ljava/util/Map;)V"⟩ : MethodName)) rfl hown (mvT hZ (hw _ (List.mem_of_getElem? (i := 70) rfl))) (mvT hZ (hw _ (List.mem_of_getElem? (i := 71) rfl))) (mvT hZ (hw _ (List.mem_of_getElem? (i := 72) rfl))) (by decide) (backOfS (W := 1) (rmAppN l Z a0 hw [] a277 a225 xs xm h270 n0 Z293 O295 ES EM A274 ag284 F296 F297 F298 F299 F300 F301) hZ (hw _ (List.mem_of_getElem? (i := 72) rfl)) (hw _ (List.mem_of_getElem? (i := 58) rfl)) (by decide) (by decide)) (g := (mkF m 172 #[iv v0, iv v1, iv v2, iv v3, iv v4, iv v5, iv (0 : Int32), iv mL, iv mC, iv sL, iv sC, rv a10, rv a62, rv a118, rv a170, rv a225, .val .null, .unset, .unset] [(.ref xm), (.ref xs), .null, .null, .null, (.ref a225), (.ref a277), (.ref a277)])) rfl (by rw [hml]; rfl) (Steps.refl _) (a := a277) (argsL := [(.ref a225), .null, .null, .null, (.ref xs), (.ref xm)]) (rest := [(.ref a277)]) (lenOf (by decide +kernel : parseMethodDescriptor "(Lcom/example/overweave/overweave/model/Position;Lcom/example/overweave/overweave/model/Position;Lcom/example/overweave/overweave/model/Attribute;Lcom/example/overweave/overweave/model/Attribute;Ljava/util/Set;Ljava/util/Map;)V" = some ⟨[(.object "com/example/overweave/overweave/model/Position"), (.object "com/example/overweave/overweave/model/Position"), (.object "com/example/overweave/overweave/model/Attribute"), (.object "com/example/overweave/overweave/model/Attribute"), (.object "java/util/Set"), (.object "java/util/Map")], none⟩) rfl) rfl (by show 2 * 0 + _ ≤ _; exact Nat.le_of_eq rfl) (hb hby at_172) (fun _ _ => ⟨rfl, e328, (by decide : 10 + 2 ≤ _), (by decide : 45 + 20 ≤ _)⟩)
    dsimp only [Pt.U, Pt.locs, Pt.cells, Pt.slots] at X338 l341 y342 z343 st344 hQ340 hS2_ hgr_
    subst l341 y342 z343
    obtain ⟨X345, hS, hZ, hown⟩ := rebS hS (by rw [show T316.heap = h270 from e328]; exact hk294) X338 hS2_ hgr_ hZ hown
    obtain ⟨rfl, N346, O331, K330, g332, g333⟩ := hQ340
    have N348 := Fr.app N329 N346
    have V349 := (V285.keep K330 (ninS ne279 nin0))
    have V350 := (V286.keep K330 (ninS ne280 nin0))
    have E351 := (E287.keep K330)
    have E352 := (E288.keep K330)
    have E353 := (E289.keep K330)
    have F354 := (F290.keep K330 (ninS ne283 nin0))
    have F355 := (F291.keep K330 (ninS ne283 nin0))
    have F356 := (F292.keep K330 (ninS ne283 nin0))
    have E357 := (A274.keep K330)
    have Z358 := Nat.le_trans Z293 K330.1
    have O359 := O295.keep K330 (allS ag284 all0)
    refine own_tr (S' := (T334.setTop (mkF m 175 #[iv v0, iv v1, iv v2, iv v3, iv v4, iv v5, iv (0 : Int32), iv mL, iv mC, iv sL, iv sC, rv a10, rv a62, rv a118, rv a170, rv a225, .val .null, .unset, .unset] [(.ref a277)]))) st344 ?_
    refine own_bk (S' := (T334.setTop (mkF m 177 #[iv v0, iv v1, iv v2, iv v3, iv v4, iv v5, iv (0 : Int32), iv mL, iv mC, iv sL, iv sC, rv a10, rv a62, rv a118, rv a170, rv a225, .val .null, rv a277, .unset] []))) (fun t_ kont => XS.astore X345.here hx rfl (hb hby at_175) rfl rfl (l' := #[iv v0, iv v1, iv v2, iv v3, iv v4, iv v5, iv (0 : Int32), iv mL, iv mC, iv sL, iv sC, rv a10, rv a62, rv a118, rv a170, rv a225, .val .null, rv a277, .unset]) rfl kont) ?_
    refine own_bk (S' := (T334.setTop (mkF m 179 #[iv v0, iv v1, iv v2, iv v3, iv v4, iv v5, iv (0 : Int32), iv mL, iv mC, iv sL, iv sC, rv a10, rv a62, rv a118, rv a170, rv a225, .val .null, rv a277, .unset] [(.ref a277)]))) (fun t_ kont => XS.aload X345.here hx rfl (hb hby at_177) rfl rfl kont) ?_
    obtain ⟨cqq371, kqq371, q371a, q371b, q371c⟩ := isOf hZ rfl E357
    obtain ⟨_, _, ⟨T360, L361, k362, n363⟩, -, X364, ⟨Lc365, hQ366, l367, y368, z369⟩, st370⟩ := X345.virtualBack hx (y := (⟨"com/example/overweave/overweave/merge/SdkLevels$App", "levelsPosition", "()Lcom/example/overweave/overweave/model/Position;"⟩ : MethodName)) (z := (⟨"com/example/overweave/overweave/merge/SdkLevels$App", "levelsPosition", "()Lcom/example/overweave/overweave/model/Position;"⟩ : MethodName)) hown (mvT hZ (hw _ (List.mem_of_getElem? (i := 100) rfl))) (mvT hZ (hw _ (List.mem_of_getElem? (i := 101) rfl))) (notFace_of_selects (args := #[]) (mvT hZ (hw _ (List.mem_of_getElem? (i := 103) rfl)))) (mvT hZ (hw _ (List.mem_of_getElem? (i := 103) rfl))) (mvT hZ (hw _ (List.mem_of_getElem? (i := 102) rfl))) (by decide) (backOf (W := 0) (rmLevN l Z a0 hw [] a277 a225 T334.heap n0 Z358 g332 g333) hZ (hw _ (List.mem_of_getElem? (i := 104) rfl)) (hw _ (List.mem_of_getElem? (i := 58) rfl)) (by decide) (by decide)) q371a q371c (g := (mkF m 179 #[iv v0, iv v1, iv v2, iv v3, iv v4, iv v5, iv (0 : Int32), iv mL, iv mC, iv sL, iv sC, rv a10, rv a62, rv a118, rv a170, rv a225, .val .null, rv a277, .unset] [(.ref a277)])) rfl (by rw [hml]; rfl) (Steps.refl _) (argsL := []) (rest := []) (lenOf (by decide +kernel : parseMethodDescriptor "()Lcom/example/overweave/overweave/model/Position;" = some ⟨[], some (.object "com/example/overweave/overweave/model/Position")⟩) rfl) rfl (by show 2 * 0 + _ ≤ _; exact Nat.le_of_eq rfl) (hb hby at_179) (fun _ _ => ⟨rfl, rfl, (by decide : 12 + 0 ≤ _), (by decide : 65 + 0 ≤ _)⟩)
    dsimp only [Pt.U, Pt.locs, Pt.cells, Pt.slots] at X364 l367 y368 z369 st370 hQ366
    subst l367 y368 z369
    obtain ⟨rfl, N372, e373⟩ := hQ366
    have N374 := Fr.app N348 N372
    refine own_tr (S' := (T360.setTop (mkF m 182 #[iv v0, iv v1, iv v2, iv v3, iv v4, iv v5, iv (0 : Int32), iv mL, iv mC, iv sL, iv sC, rv a10, rv a62, rv a118, rv a170, rv a225, .val .null, rv a277, .unset] [(.ref a225)]))) st370 ?_
    refine own_bk (S' := (T360.setTop (mkF m 184 #[iv v0, iv v1, iv v2, iv v3, iv v4, iv v5, iv (0 : Int32), iv mL, iv mC, iv sL, iv sC, rv a10, rv a62, rv a118, rv a170, rv a225, .val .null, rv a277, rv a225] []))) (fun t_ kont => XS.astore X364.here hx rfl (hb hby at_182) rfl rfl (l' := #[iv v0, iv v1, iv v2, iv v3, iv v4, iv v5, iv (0 : Int32), iv mL, iv mC, iv sL, iv sC, rv a10, rv a62, rv a118, rv a170, rv a225, .val .null, rv a277, rv a225]) rfl kont) ?_
    refine own_bk (S' := (T360.setTop (mkF m 186 #[iv v0, iv v1, iv v2, iv v3, iv v4, iv v5, iv (0 : Int32), iv mL, iv mC, iv sL, iv sC, rv a10, rv a62, rv a118, rv a170, rv a225, .val .null, rv a277, rv a225] [(.ref a225)]))) (fun t_ kont => XS.aload X364.here hx rfl (hb hby at_184) rfl rfl kont) ?_
    refine own_bk (S' := (T360.setTop (mkF m 191 #[iv v0, iv v1, iv v2, iv v3, iv v4, iv v5, iv (0 : Int32), iv mL, iv mC, iv sL, iv sC, rv a10, rv a62, rv a118, rv a170, rv a225, .val .null, rv a277, rv a225] []))) (fun t_ kont => XS.ifnonnullYes X364.here hx rfl (pc0 := 186) (pc' := 191) rfl (hb hby at_186) rfl (by decide) (by decide) kont) ?_
    refine own_bk (S' := (T360.setTop (mkF m 193 #[iv v0, iv v1, iv v2, iv v3, iv v4, iv v5, iv (0 : Int32), iv mL, iv mC, iv sL, iv sC, rv a10, rv a62, rv a118, rv a170, rv a225, .val .null, rv a277, rv a225] [(.int (0 : Int32))]))) (fun t_ kont => XS.iload X364.here hx rfl (hb hby at_191) rfl kont) ?_
    refine own_bk (S' := (T360.setTop (mkF m 242 #[iv v0, iv v1, iv v2, iv v3, iv v4, iv v5, iv (0 : Int32), iv mL, iv mC, iv sL, iv sC, rv a10, rv a62, rv a118, rv a170, rv a225, .val .null, rv a277, rv a225] []))) (fun t_ kont => XS.ifYes X364.here hx rfl (pc0 := 193) (pc' := 242) rfl (hb hby at_193) rfl ((if0 _ _).trans (teq (by decide : ((0 : Int32)) = ((0 : Int32)))).1) (by decide) (by decide) kont) ?_
    refine own_bk (S' := (T360.setTop (mkF m 244 #[iv v0, iv v1, iv v2, iv v3, iv v4, iv v5, iv (0 : Int32), iv mL, iv mC, iv sL, iv sC, rv a10, rv a62, rv a118, rv a170, rv a225, .val .null, rv a277, rv a225] [(.ref a225)]))) (fun t_ kont => XS.aload X364.here hx rfl (hb hby at_242) rfl rfl kont) ?_
    refine own_bk (S' := (T360.setTop (mkF m 246 #[iv v0, iv v1, iv v2, iv v3, iv v4, iv v5, iv (0 : Int32), iv mL, iv mC, iv sL, iv sC, rv a10, rv a62, rv a118, rv a170, rv a225, .val .null, rv a277, rv a225] [(.ref a225), (.ref a225)]))) (fun t_ kont => XS.aload X364.here hx rfl (hb hby at_244) rfl rfl kont) ?_
    refine own_bk (S' := (T360.setTop (mkF m 249 #[iv v0, iv v1, iv v2, iv v3, iv v4, iv v5, iv (0 : Int32), iv mL, iv mC, iv sL, iv sC, rv a10, rv a62, rv a118, rv a170, rv a225, .val .null, rv a277, rv a225] []))) (fun t_ kont => Jvm.RoadKit.acmp (g := (mkF m 246 #[iv v0, iv v1, iv v2, iv v3, iv v4, iv v5, iv (0 : Int32), iv mL, iv mC, iv sL, iv sC, rv a10, rv a62, rv a118, rv a170, rv a225, .val .null, rv a277, rv a225] [(.ref a225), (.ref a225)])) X364 hx rfl rfl rfl (pc0 := 246) (pc' := 249) (same := true) rfl (hb hby at_246) rfl (decide_eq_true rfl) (by decide) (by decide) kont) ?_
    refine own_bk (S' := (T360.setTop (mkF m 251 #[iv v0, iv v1, iv v2, iv v3, iv v4, iv v5, iv (0 : Int32), iv mL, iv mC, iv sL, iv sC, rv a10, rv a62, rv a118, rv a170, rv a225, .val .null, rv a277, rv a225] [(.ref a225)]))) (fun t_ kont => XS.aload X364.here hx rfl (hb hby at_249) rfl rfl kont) ?_
    obtain ⟨cqq386, kqq386, q386a, q386b, q386c⟩ := isOf hZ e373 E353
    obtain ⟨_, _, ⟨T375, L376, k377, n378⟩, -, X379, ⟨Lc380, hQ381, l382, y383, z384⟩, st385⟩ := X364.virtualBack hx (y := (⟨"com/example/overweave/overweave/model/Position", "file", "()Ljava/lang/String;"⟩ : MethodName)) (z := (⟨"com/example/overweave/overweave/model/Position", "file", "()Ljava/lang/String;"⟩ : MethodName)) hown (mvT hZ (hw _ (List.mem_of_getElem? (i := 105) rfl))) (mvT hZ (hw _ (List.mem_of_getElem? (i := 106) rfl))) (notFace_of_selects (args := #[]) (mvT hZ (hw _ (List.mem_of_getElem? (i := 108) rfl)))) (mvT hZ (hw _ (List.mem_of_getElem? (i := 108) rfl))) (mvT hZ (hw _ (List.mem_of_getElem? (i := 107) rfl))) (by decide) (backOf (W := 0) (rmg_file l Z a0 hw [] a225 a118 T334.heap n0 Z358 F354) hZ (hw _ (List.mem_of_getElem? (i := 109) rfl)) (hw _ (List.mem_of_getElem? (i := 33) rfl)) (by decide) (by decide)) q386a q386c (g := (mkF m 251 #[iv v0, iv v1, iv v2, iv v3, iv v4, iv v5, iv (0 : Int32), iv mL, iv mC, iv sL, iv sC, rv a10, rv a62, rv a118, rv a170, rv a225, .val .null, rv a277, rv a225] [(.ref a225)])) rfl (by rw [hml]; rfl) (Steps.refl _) (argsL := []) (rest := []) (lenOf (by decide +kernel : parseMethodDescriptor "()Ljava/lang/String;" = some ⟨[], some (.object "java/lang/String")⟩) rfl) rfl (by show 2 * 0 + _ ≤ _; exact Nat.le_of_eq rfl) (hb hby at_251) (fun _ _ => ⟨rfl, e373, (by decide : 12 + 0 ≤ _), (by decide : 65 + 0 ≤ _)⟩)
    dsimp only [Pt.U, Pt.locs, Pt.cells, Pt.slots] at X379 l382 y383 z384 st385 hQ381
    subst l382 y383 z384
    obtain ⟨rfl, N387, e388⟩ := hQ381
    have N389 := Fr.app N374 N387
    refine own_tr (S' := (T375.setTop (mkF m 254 #[iv v0, iv v1, iv v2, iv v3, iv v4, iv v5, iv (0 : Int32), iv mL, iv mC, iv sL, iv sC, rv a10, rv a62, rv a118, rv a170, rv a225, .val .null, rv a277, rv a225] [(.ref a118)]))) st385 ?_
    refine own_bk (S' := (T375.setTop (mkF m 256 #[iv v0, iv v1, iv v2, iv v3, iv v4, iv v5, iv (0 : Int32), iv mL, iv mC, iv sL, iv sC, rv a10, rv a62, rv a118, rv a170, rv a225, .val .null, rv a277, rv a225] [(.ref a118), (.ref a118)]))) (fun t_ kont => XS.aload X379.here hx rfl (hb hby at_254) rfl rfl kont) ?_
    obtain ⟨cqq401, kqq401, q401a, q401b, q401c⟩ := isOf hZ e388 E351
    obtain ⟨_, _, ⟨T390, L391, k392, n393⟩, -, X394, ⟨Lc395, hQ396, l397, y398, z399⟩, st400⟩ := X379.virtualBack hx (y := (⟨"java/lang/String", "equals", "(Ljava/lang/Object;)Z"⟩ : MethodName)) (z := (⟨"java/lang/String", "equals", "(Ljava/lang/Object;)Z"⟩ : MethodName)) hown (mvT hZ (hw _ (List.mem_of_getElem? (i := 110) rfl))) (mvT hZ (hw _ (List.mem_of_getElem? (i := 111) rfl))) (notFace_of_selects (args := #[]) (mvT hZ (hw _ (List.mem_of_getElem? (i := 113) rfl)))) (mvT hZ (hw _ (List.mem_of_getElem? (i := 113) rfl))) (mvT hZ (hw _ (List.mem_of_getElem? (i := 112) rfl))) (by decide) (backOf (W := 0) (rmEq l Z a0 hw [] a118 T334.heap n0 Z358) hZ (hw _ (List.mem_of_getElem? (i := 114) rfl)) (hw _ (List.mem_of_getElem? (i := 4) rfl)) (by decide) (by decide)) q401a q401c (g := (mkF m 256 #[iv v0, iv v1, iv v2, iv v3, iv v4, iv v5, iv (0 : Int32), iv mL, iv mC, iv sL, iv sC, rv a10, rv a62, rv a118, rv a170, rv a225, .val .null, rv a277, rv a225] [(.ref a118), (.ref a118)])) rfl (by rw [hml]; rfl) (Steps.refl _) (argsL := [(.ref a118)]) (rest := []) (lenOf (by decide +kernel : parseMethodDescriptor "(Ljava/lang/Object;)Z" = some ⟨[(.object "java/lang/Object")], some .boolean⟩) rfl) rfl (by show 2 * 0 + _ ≤ _; exact Nat.le_of_eq rfl) (hb hby at_256) (fun _ _ => ⟨rfl, e388, (by decide : 12 + 0 ≤ _), (by decide : 65 + 0 ≤ _)⟩)
    dsimp only [Pt.U, Pt.locs, Pt.cells, Pt.slots] at X394 l397 y398 z399 st400 hQ396
    subst l397 y398 z399
    obtain ⟨rfl, N402, e403⟩ := hQ396
    have N404 := Fr.app N389 N402
    refine own_tr (S' := (T390.setTop (mkF m 259 #[iv v0, iv v1, iv v2, iv v3, iv v4, iv v5, iv (0 : Int32), iv mL, iv mC, iv sL, iv sC, rv a10, rv a62, rv a118, rv a170, rv a225, .val .null, rv a277, rv a225] [(.int (1 : Int32))]))) st400 ?_
    refine own_bk (S' := (T390.setTop (mkF m 262 #[iv v0, iv v1, iv v2, iv v3, iv v4, iv v5, iv (0 : Int32), iv mL, iv mC, iv sL, iv sC, rv a10, rv a62, rv a118, rv a170, rv a225, .val .null, rv a277, rv a225] []))) (fun t_ kont => XS.ifNo X394.here hx rfl (hb hby at_259) rfl ((if0 _ _).trans (feq (by decide : ¬ ((1 : Int32)) = ((0 : Int32)))).1) kont) ?_
    refine own_bk (S' := (T390.setTop (mkF m 264 #[iv v0, iv v1, iv v2, iv v3, iv v4, iv v5, iv (0 : Int32), iv mL, iv mC, iv sL, iv sC, rv a10, rv a62, rv a118, rv a170, rv a225, .val .null, rv a277, rv a225] [(.ref a225)]))) (fun t_ kont => XS.aload X394.here hx rfl (hb hby at_262) rfl rfl kont) ?_
    obtain ⟨cqq416, kqq416, q416a, q416b, q416c⟩ := isOf hZ e403 E353
    obtain ⟨_, _, ⟨T405, L406, k407, n408⟩, -, X409, ⟨Lc410, hQ411, l412, y413, z414⟩, st415⟩ := X394.virtualBack hx (y := (⟨"com/example/overweave/overweave/model/Position", "line", "()I"⟩ : MethodName)) (z := (⟨"com/example/overweave/overweave/model/Position", "line", "()I"⟩ : MethodName)) hown (mvT hZ (hw _ (List.mem_of_getElem? (i := 115) rfl))) (mvT hZ (hw _ (List.mem_of_getElem? (i := 116) rfl))) (notFace_of_selects (args := #[]) (mvT hZ (hw _ (List.mem_of_getElem? (i := 118) rfl)))) (mvT hZ (hw _ (List.mem_of_getElem? (i := 118) rfl))) (mvT hZ (hw _ (List.mem_of_getElem? (i := 117) rfl))) (by decide) (backOf (W := 0) (rmg_line l Z a0 hw [] a225 mL T334.heap n0 Z358 F355) hZ (hw _ (List.mem_of_getElem? (i := 119) rfl)) (hw _ (List.mem_of_getElem? (i := 33) rfl)) (by decide) (by decide)) q416a q416c (g := (mkF m 264 #[iv v0, iv v1, iv v2, iv v3, iv v4, iv v5, iv (0 : Int32), iv mL, iv mC, iv sL, iv sC, rv a10, rv a62, rv a118, rv a170, rv a225, .val .null, rv a277, rv a225] [(.ref a225)])) rfl (by rw [hml]; rfl) (Steps.refl _) (argsL := []) (rest := []) (lenOf (by decide +kernel : parseMethodDescriptor "()I" = some ⟨[], some .int⟩) rfl) rfl (by show 2 * 0 + _ ≤ _; exact Nat.le_of_eq rfl) (hb hby at_264) (fun _ _ => ⟨rfl, e403, (by decide : 12 + 0 ≤ _), (by decide : 65 + 0 ≤ _)⟩)
    dsimp only [Pt.U, Pt.locs, Pt.cells, Pt.slots] at X409 l412 y413 z414 st415 hQ411
    subst l412 y413 z414
    obtain ⟨rfl, N417, e418⟩ := hQ411
    have N419 := Fr.app N404 N417
    refine own_tr (S' := (T405.setTop (mkF m 267 #[iv v0, iv v1, iv v2, iv v3, iv v4, iv v5, iv (0 : Int32), iv mL, iv mC, iv sL, iv sC, rv a10, rv a62, rv a118, rv a170, rv a225, .val .null, rv a277, rv a225] [(.int mL)]))) st415 ?_
    refine own_bk (S' := (T405.setTop (mkF m 269 #[iv v0, iv v1, iv v2, iv v3, iv v4, iv v5, iv (0 : Int32), iv mL, iv mC, iv sL, iv sC, rv a10, rv a62, rv a118, rv a170, rv a225, .val .null, rv a277, rv a225] [(.int mL), (.int mL)]))) (fun t_ kont => XS.iload X409.here hx rfl (hb hby at_267) rfl kont) ?_
    refine own_bk (S' := (T405.setTop (mkF m 272 #[iv v0, iv v1, iv v2, iv v3, iv v4, iv v5, iv (0 : Int32), iv mL, iv mC, iv sL, iv sC, rv a10, rv a62, rv a118, rv a170, rv a225, .val .null, rv a277, rv a225] []))) (fun t_ kont => XS.icmpNo X409.here hx rfl (hb hby at_269) rfl (teq (rfl : (mL) = (mL))).2 kont) ?_
    refine own_bk (S' := (T405.setTop (mkF m 274 #[iv v0, iv v1, iv v2, iv v3, iv v4, iv v5, iv (0 : Int32), iv mL, iv mC, iv sL, iv sC, rv a10, rv a62, rv a118, rv a170, rv a225, .val .null, rv a277, rv a225] [(.ref a225)]))) (fun t_ kont => XS.aload X409.here hx rfl (hb hby at_272) rfl rfl kont) ?_
    obtain ⟨cqq431, kqq431, q431a, q431b, q431c⟩ := isOf hZ e418 E353
    obtain ⟨_, _, ⟨T420, L421, k422, n423⟩, -, X424, ⟨Lc425, hQ426, l427, y428, z429⟩, st430⟩ := X409.virtualBack hx (y := (⟨"com/example/overweave/overweave/model/Position", "column", "()I"⟩ : MethodName)) (z := (⟨"com/example/overweave/overweave/model/Position", "column", "()I"⟩ : MethodName)) hown (mvT hZ (hw _ (List.mem_of_getElem? (i := 120) rfl))) (mvT hZ (hw _ (List.mem_of_getElem? (i := 121) rfl))) (notFace_of_selects (args := #[]) (mvT hZ (hw _ (List.mem_of_getElem? (i := 123) rfl)))) (mvT hZ (hw _ (List.mem_of_getElem? (i := 123) rfl))) (mvT hZ (hw _ (List.mem_of_getElem? (i := 122) rfl))) (by decide) (backOf (W := 0) (rmg_column l Z a0 hw [] a225 mC T334.heap n0 Z358 F356) hZ (hw _ (List.mem_of_getElem? (i := 124) rfl)) (hw _ (List.mem_of_getElem? (i := 33) rfl)) (by decide) (by decide)) q431a q431c (g := (mkF m 274 #[iv v0, iv v1, iv v2, iv v3, iv v4, iv v5, iv (0 : Int32), iv mL, iv mC, iv sL, iv sC, rv a10, rv a62, rv a118, rv a170, rv a225, .val .null, rv a277, rv a225] [(.ref a225)])) rfl (by rw [hml]; rfl) (Steps.refl _) (argsL := []) (rest := []) (lenOf (by decide +kernel : parseMethodDescriptor "()I" = some ⟨[], some .int⟩) rfl) rfl (by show 2 * 0 + _ ≤ _; exact Nat.le_of_eq rfl) (hb hby at_274) (fun _ _ => ⟨rfl, e418, (by decide : 12 + 0 ≤ _), (by decide : 65 + 0 ≤ _)⟩)
    dsimp only [Pt.U, Pt.locs, Pt.cells, Pt.slots] at X424 l427 y428 z429 st430 hQ426
    subst l427 y428 z429
    obtain ⟨rfl, N432, e433⟩ := hQ426
    have N434 := Fr.app N419 N432
    refine own_tr (S' := (T420.setTop (mkF m 277 #[iv v0, iv v1, iv v2, iv v3, iv v4, iv v5, iv (0 : Int32), iv mL, iv mC, iv sL, iv sC, rv a10, rv a62, rv a118, rv a170, rv a225, .val .null, rv a277, rv a225] [(.int mC)]))) st430 ?_
    refine own_bk (S' := (T420.setTop (mkF m 279 #[iv v0, iv v1, iv v2, iv v3, iv v4, iv v5, iv (0 : Int32), iv mL, iv mC, iv sL, iv sC, rv a10, rv a62, rv a118, rv a170, rv a225, .val .null, rv a277, rv a225] [(.int mC), (.int mC)]))) (fun t_ kont => XS.iload X424.here hx rfl (hb hby at_277) rfl kont) ?_
    refine own_bk (S' := (T420.setTop (mkF m 282 #[iv v0, iv v1, iv v2, iv v3, iv v4, iv v5, iv (0 : Int32), iv mL, iv mC, iv sL, iv sC, rv a10, rv a62, rv a118, rv a170, rv a225, .val .null, rv a277, rv a225] []))) (fun t_ kont => XS.icmpNo X424.here hx rfl (hb hby at_279) rfl (teq (rfl : (mC) = (mC))).2 kont) ?_
    refine own_bk (S' := (T420.setTop (mkF m 283 #[iv v0, iv v1, iv v2, iv v3, iv v4, iv v5, iv (0 : Int32), iv mL, iv mC, iv sL, iv sC, rv a10, rv a62, rv a118, rv a170, rv a225, .val .null, rv a277, rv a225] [(.int (1 : Int32))]))) (fun t_ kont => XS.iconst X424.here hx rfl (hb hby at_282) kont) ?_
    refine own_bk (S' := (T420.setTop (mkF m 287 #[iv v0, iv v1, iv v2, iv v3, iv v4, iv v5, iv (0 : Int32), iv mL, iv mC, iv sL, iv sC, rv a10, rv a62, rv a118, rv a170, rv a225, .val .null, rv a277, rv a225] [(.int (1 : Int32))]))) (fun t_ kont => XS.goto X424.here hx rfl (pc0 := 283) (pc' := 287) rfl (hb hby at_283) (by decide) (by decide) kont) ?_
    exact own_retNW hS X424 (by rw [show T420.heap = T334.heap from e433]; exact (Nat.le_refl _)) hx hlk (t := .boolean) (w := (1 : Int32)) Bd.returns (by simp) (hb hby at_287) rfl ⟨rfl, N434⟩ (by decide) (by decide)
  · refine own_bk (S' := (s₁.setTop (mkF m 7 #[iv v0, iv v1, iv v2, iv v3, iv v4, iv v5, .unset, .unset, .unset, .unset, .unset, .unset, .unset, .unset, .unset, .unset, .unset, .unset, .unset] []))) (fun t_ kont => XS.ifNo X0.here hx rfl (hb hby at_4) rfl ((if0 _ _).trans (feq (hc1)).1) kont) ?_
    refine own_bk (S' := (s₁.setTop (mkF m 8 #[iv v0, iv v1, iv v2, iv v3, iv v4, iv v5, .unset, .unset, .unset, .unset, .unset, .unset, .unset, .unset, .unset, .unset, .unset, .unset, .unset] [(.int (1 : Int32))]))) (fun t_ kont => XS.iconst X0.here hx rfl (hb hby at_7) kont) ?_
    refine own_bk (S' := (s₁.setTop (mkF m 12 #[iv v0, iv v1, iv v2, iv v3, iv v4, iv v5, .unset, .unset, .unset, .unset, .unset, .unset, .unset, .unset, .unset, .unset, .unset, .unset, .unset] [(.int (1 : Int32))]))) (fun t_ kont => XS.goto X0.here hx rfl (pc0 := 8) (pc' := 12) rfl (hb hby at_8) (by decide) (by decide) kont) ?_
    refine own_bk (S' := (s₁.setTop (mkF m 14 #[iv v0, iv v1, iv v2, iv v3, iv v4, iv v5, iv (1 : Int32), .unset, .unset, .unset, .unset, .unset, .unset, .unset, .unset, .unset, .unset, .unset, .unset] []))) (fun t_ kont => XS.istore X0.here hx rfl (hb hby at_12) rfl (l' := #[iv v0, iv v1, iv v2, iv v3, iv v4, iv v5, iv (1 : Int32), .unset, .unset, .unset, .unset, .unset, .unset, .unset, .unset, .unset, .unset, .unset, .unset]) rfl kont) ?_
    refine own_bk (S' := (s₁.setTop (mkF m 15 #[iv v0, iv v1, iv v2, iv v3, iv v4, iv v5, iv (1 : Int32), .unset, .unset, .unset, .unset, .unset, .unset, .unset, .unset, .unset, .unset, .unset, .unset] [(.int v1)]))) (fun t_ kont => XS.iloadN X0.here hx rfl (hb hby at_14) rfl kont) ?_
    refine own_bk (S' := (s₁.setTop (mkF m 17 #[iv v0, iv v1, iv v2, iv v3, iv v4, iv v5, iv (1 : Int32), .unset, .unset, .unset, .unset, .unset, .unset, .unset, .unset, .unset, .unset, .unset, .unset] [(.int (2147483647 : Int32)), (.int v1)]))) (fun t_ kont => X0.ldcI hx hown (mvT hZ (hw _ (List.mem_of_getElem? (i := 0) rfl))) rfl (hb hby at_15) kont) ?_
    refine own_bk (S' := (s₁.setTop (mkF m 18 #[iv v0, iv v1, iv v2, iv v3, iv v4, iv v5, iv (1 : Int32), .unset, .unset, .unset, .unset, .unset, .unset, .unset, .unset, .unset, .unset, .unset, .unset] [(.int (v1 &&& (2147483647 : Int32)))]))) (fun t_ kont => XS.iand X0.here hx rfl (hb hby at_17) rfl kont) ?_
    refine own_bk (S' := (s₁.setTop (mkF m 20 #[iv v0, iv v1, iv v2, iv v3, iv v4, iv v5, iv (1 : Int32), iv (v1 &&& (2147483647 : Int32)), .unset, .unset, .unset, .unset, .unset, .unset, .unset, .unset, .unset, .unset, .unset] []))) (fun t_ kont => XS.istore X0.here hx rfl (hb hby at_18) rfl (l' := #[iv v0, iv v1, iv v2, iv v3, iv v4, iv v5, iv (1 : Int32), iv (v1 &&& (2147483647 : Int32)), .unset, .unset, .unset, .unset, .unset, .unset, .unset, .unset, .unset, .unset, .unset]) rfl kont) ?_
    refine own_bk (S' := (s₁.setTop (mkF m 21 #[iv v0, iv v1, iv v2, iv v3, iv v4, iv v5, iv (1 : Int32), iv (v1 &&& (2147483647 : Int32)), .unset, .unset, .unset, .unset, .unset, .unset, .unset, .unset, .unset, .unset, .unset] [(.int v2)]))) (fun t_ kont => XS.iloadN X0.here hx rfl (hb hby at_20) rfl kont) ?_
    refine own_bk (S' := (s₁.setTop (mkF m 23 #[iv v0, iv v1, iv v2, iv v3, iv v4, iv v5, iv (1 : Int32), iv (v1 &&& (2147483647 : Int32)), .unset, .unset, .unset, .unset, .unset, .unset, .unset, .unset, .unset, .unset, .unset] [(.int (2147483647 : Int32)), (.int v2)]))) (fun t_ kont => X0.ldcI hx hown (mvT hZ (hw _ (List.mem_of_getElem? (i := 0) rfl))) rfl (hb hby at_21) kont) ?_
    refine own_bk (S' := (s₁.setTop (mkF m 24 #[iv v0, iv v1, iv v2, iv v3, iv v4, iv v5, iv (1 : Int32), iv (v1 &&& (2147483647 : Int32)), .unset, .unset, .unset, .unset, .unset, .unset, .unset, .unset, .unset, .unset, .unset] [(.int (v2 &&& (2147483647 : Int32)))]))) (fun t_ kont => XS.iand X0.here hx rfl (hb hby at_23) rfl kont) ?_
    refine own_bk (S' := (s₁.setTop (mkF m 26 #[iv v0, iv v1, iv v2, iv v3, iv v4, iv v5, iv (1 : Int32), iv (v1 &&& (2147483647 : Int32)), iv (v2 &&& (2147483647 : Int32)), .unset, .unset, .unset, .unset, .unset, .unset, .unset, .unset, .unset, .unset] []))) (fun t_ kont => XS.istore X0.here hx rfl (hb hby at_24) rfl (l' := #[iv v0, iv v1, iv v2, iv v3, iv v4, iv v5, iv (1 : Int32), iv (v1 &&& (2147483647 : Int32)), iv (v2 &&& (2147483647 : Int32)), .unset, .unset, .unset, .unset, .unset, .unset, .unset, .unset, .unset, .unset]) rfl kont) ?_
    refine own_bk (S' := (s₁.setTop (mkF m 28 #[iv v0, iv v1, iv v2, iv v3, iv v4, iv v5, iv (1 : Int32), iv (v1 &&& (2147483647 : Int32)), iv (v2 &&& (2147483647 : Int32)), .unset, .unset, .unset, .unset, .unset, .unset, .unset, .unset, .unset, .unset] [(.int v4)]))) (fun t_ kont => XS.iload X0.here hx rfl (hb hby at_26) rfl kont) ?_
    refine own_bk (S' := (s₁.setTop (mkF m 30 #[iv v0, iv v1, iv v2, iv v3, iv v4, iv v5, iv (1 : Int32), iv (v1 &&& (2147483647 : Int32)), iv (v2 &&& (2147483647 : Int32)), .unset, .unset, .unset, .unset, .unset, .unset, .unset, .unset, .unset, .unset] [(.int (2147483647 : Int32)), (.int v4)]))) (fun t_ kont => X0.ldcI hx hown (mvT hZ (hw _ (List.mem_of_getElem? (i := 0) rfl))) rfl (hb hby at_28) kont) ?_
    refine own_bk (S' := (s₁.setTop (mkF m 31 #[iv v0, iv v1, iv v2, iv v3, iv v4, iv v5, iv (1 : Int32), iv (v1 &&& (2147483647 : Int32)), iv (v2 &&& (2147483647 : Int32)), .unset, .unset, .unset, .unset, .unset, .unset, .unset, .unset, .unset, .unset] [(.int (v4 &&& (2147483647 : Int32)))]))) (fun t_ kont => XS.iand X0.here hx rfl (hb hby at_30) rfl kont) ?_
    refine own_bk (S' := (s₁.setTop (mkF m 33 #[iv v0, iv v1, iv v2, iv v3, iv v4, iv v5, iv (1 : Int32), iv (v1 &&& (2147483647 : Int32)), iv (v2 &&& (2147483647 : Int32)), iv (v4 &&& (2147483647 : Int32)), .unset, .unset, .unset, .unset, .unset, .unset, .unset, .unset, .unset] []))) (fun t_ kont => XS.istore X0.here hx rfl (hb hby at_31) rfl (l' := #[iv v0, iv v1, iv v2, iv v3, iv v4, iv v5, iv (1 : Int32), iv (v1 &&& (2147483647 : Int32)), iv (v2 &&& (2147483647 : Int32)), iv (v4 &&& (2147483647 : Int32)), .unset, .unset, .unset, .unset, .unset, .unset, .unset, .unset, .unset]) rfl kont) ?_
    refine own_bk (S' := (s₁.setTop (mkF m 35 #[iv v0, iv v1, iv v2, iv v3, iv v4, iv v5, iv (1 : Int32), iv (v1 &&& (2147483647 : Int32)), iv (v2 &&& (2147483647 : Int32)), iv (v4 &&& (2147483647 : Int32)), .unset, .unset, .unset, .unset, .unset, .unset, .unset, .unset, .unset] [(.int v5)]))) (fun t_ kont => XS.iload X0.here hx rfl (hb hby at_33) rfl kont) ?_
    refine own_bk (S' := (s₁.setTop (mkF m 36 #[iv v0, iv v1, iv v2, iv v3, iv v4, iv v5, iv (1 : Int32), iv (v1 &&& (2147483647 : Int32)), iv (v2 &&& (2147483647 : Int32)), iv (v4 &&& (2147483647 : Int32)), .unset, .unset, .unset, .unset, .unset, .unset, .unset, .unset, .unset] [(.int (1 : Int32)), (.int v5)]))) (fun t_ kont => XS.iconst X0.here hx rfl (hb hby at_35) kont) ?_
    refine own_bk (S' := (s₁.setTop (mkF m 37 #[iv v0, iv v1, iv v2, iv v3, iv v4, iv v5, iv (1 : Int32), iv (v1 &&& (2147483647 : Int32)), iv (v2 &&& (2147483647 : Int32)), iv (v4 &&& (2147483647 : Int32)), .unset, .unset, .unset, .unset, .unset, .unset, .unset, .unset, .unset] [(.int (v5.toUInt32 >>> ((1 : Int32) &&& 31).toUInt32).toInt32)]))) (fun t_ kont => XS.iushr X0.here hx rfl (hb hby at_36) rfl kont) ?_
    refine own_bk (S' := (s₁.setTop (mkF m 39 #[iv v0, iv v1, iv v2, iv v3, iv v4, iv v5, iv (1 : Int32), iv (v1 &&& (2147483647 : Int32)), iv (v2 &&& (2147483647 : Int32)), iv (v4 &&& (2147483647 : Int32)), iv ((v5.toUInt32 >>> ((1 : Int32) &&& 31).toUInt32).toInt32), .unset, .unset, .unset, .unset, .unset, .unset, .unset, .unset] []))) (fun t_ kont => XS.istore X0.here hx rfl (hb hby at_37) rfl (l' := #[iv v0, iv v1, iv v2, iv v3, iv v4, iv v5, iv (1 : Int32), iv (v1 &&& (2147483647 : Int32)), iv (v2 &&& (2147483647 : Int32)), iv (v4 &&& (2147483647 : Int32)), iv ((v5.toUInt32 >>> ((1 : Int32) &&& 31).toUInt32).toInt32), .unset, .unset, .unset, .unset, .unset, .unset, .unset, .unset]) rfl kont) ?_
    have hmL := own_m31 v1
    generalize (v1 &&& (2147483647 : Int32)) = mL at hmL ⊢
    have hmC := own_m31 v2
    generalize (v2 &&& (2147483647 : Int32)) = mC at hmC ⊢
    have hsL := own_m31 v4
    generalize (v4 &&& (2147483647 : Int32)) = sL at hsL ⊢
    have hsC := own_u1 v5
    generalize (v5.toUInt32 >>> ((1 : Int32) &&& 31).toUInt32).toInt32 = sC at hsC ⊢
    refine own_bk (S' := (s₁.setTop (mkF m 40 #[iv v0, iv v1, iv v2, iv v3, iv v4, iv v5, iv (1 : Int32), iv mL, iv mC, iv sL, iv sC, .unset, .unset, .unset, .unset, .unset, .unset, .unset, .unset] [(.int (2 : Int32))]))) (fun t_ kont => XS.iconst X0.here hx rfl (hb hby at_39) kont) ?_
    obtain ⟨T435, h436, k437, X438, e439, E440, A441, st442⟩ := newP X0 hx hZ (hw _ (List.mem_of_getElem? (i := 1) rfl)) e0 (g := (mkF m 40 #[iv v0, iv v1, iv v2, iv v3, iv v4, iv v5, iv (1 : Int32), iv mL, iv mC, iv sL, iv sC, .unset, .unset, .unset, .unset, .unset, .unset, .unset, .unset] [(.int (2 : Int32))])) rfl (hb hby at_40) rfl (by decide : ¬ ((2 : Int32) < (0 : Int32))) (cap := 2) (by decide : (2 : Int32).toNatClampNeg ≤ 2) (by decide) (by decide) (by decide)
    obtain ⟨a443, g444⟩ : ∃ z, z = h0.size := ⟨_, rfl⟩
    rw [← g444] at A441 st442
    have ag446 : n0 ≤ a443 := Nat.le_trans Z0 (Nat.le_of_eq g444.symm)
    have Z447 := Nat.le_trans Z0 E440.1
    have hk448 := Nat.le_trans hk0 E440.1
    have O449 := O.ext E440
    have V445 : Arv Z h436 a443 k437 .char (2 : Int32) [] (.int (0 : Int32)) := (Arv.new A441 (by decide : ¬ ((2 : Int32) < (0 : Int32))))
    have V450 : Arv Z h436 a443 k437 .char (2 : Int32) [(.int (0 : Int32)), (.int (0 : Int32))] (.int (0 : Int32)) := (V445.pad (pad_rep [] (.int (0 : Int32)) 2))
    refine own_bk (S' := (T435.setTop (mkF m 42 #[iv v0, iv v1, iv v2, iv v3, iv v4, iv v5, iv (1 : Int32), iv mL, iv mC, iv sL, iv sC, .unset, .unset, .unset, .unset, .unset, .unset, .unset, .unset] [(.ref a443)]))) st442 ?_
    refine own_bk (S' := (T435.setTop (mkF m 44 #[iv v0, iv v1, iv v2, iv v3, iv v4, iv v5, iv (1 : Int32), iv mL, iv mC, iv sL, iv sC, rv a443, .unset, .unset, .unset, .unset, .unset, .unset, .unset] []))) (fun t_ kont => XS.astore X438.here hx rfl (hb hby at_42) rfl rfl (l' := #[iv v0, iv v1, iv v2, iv v3, iv v4, iv v5, iv (1 : Int32), iv mL, iv mC, iv sL, iv sC, rv a443, .unset, .unset, .unset, .unset, .unset, .unset, .unset]) rfl kont) ?_
    refine own_bk (S' := (T435.setTop (mkF m 46 #[iv v0, iv v1, iv v2, iv v3, iv v4, iv v5, iv (1 : Int32), iv mL, iv mC, iv sL, iv sC, rv a443, .unset, .unset, .unset, .unset, .unset, .unset, .unset] [(.ref a443)]))) (fun t_ kont => XS.aload X438.here hx rfl (hb hby at_44) rfl rfl kont) ?_
    refine own_bk (S' := (T435.setTop (mkF m 47 #[iv v0, iv v1, iv v2, iv v3, iv v4, iv v5, iv (1 : Int32), iv mL, iv mC, iv sL, iv sC, rv a443, .unset, .unset, .unset, .unset, .unset, .unset, .unset] [(.int (0 : Int32)), (.ref a443)]))) (fun t_ kont => XS.iconst X438.here hx rfl (hb hby at_46) kont) ?_
    refine own_bk (S' := (T435.setTop (mkF m 48 #[iv v0, iv v1, iv v2, iv v3, iv v4, iv v5, iv (1 : Int32), iv mL, iv mC, iv sL, iv sC, rv a443, .unset, .unset, .unset, .unset, .unset, .unset, .unset] [(.int v0), (.int (0 : Int32)), (.ref a443)]))) (fun t_ kont => XS.iloadN X438.here hx rfl (hb hby at_47) rfl kont) ?_
    refine own_bk (S' := (T435.setTop (mkF m 51 #[iv v0, iv v1, iv v2, iv v3, iv v4, iv v5, iv (1 : Int32), iv mL, iv mC, iv sL, iv sC, rv a443, .unset, .unset, .unset, .unset, .unset, .unset, .unset] [(.int (255 : Int32)), (.int v0), (.int (0 : Int32)), (.ref a443)]))) (fun t_ kont => XS.sipush X438.here hx rfl (hb hby at_48) kont) ?_
    refine own_bk (S' := (T435.setTop (mkF m 52 #[iv v0, iv v1, iv v2, iv v3, iv v4, iv v5, iv (1 : Int32), iv mL, iv mC, iv sL, iv sC, rv a443, .unset, .unset, .unset, .unset, .unset, .unset, .unset] [(.int (v0 &&& (255 : Int32))), (.int (0 : Int32)), (.ref a443)]))) (fun t_ kont => XS.iand X438.here hx rfl (hb hby at_51) rfl kont) ?_
    refine own_bk (S' := (T435.setTop (mkF m 53 #[iv v0, iv v1, iv v2, iv v3, iv v4, iv v5, iv (1 : Int32), iv mL, iv mC, iv sL, iv sC, rv a443, .unset, .unset, .unset, .unset, .unset, .unset, .unset] [(.int ((v0 &&& (255 : Int32)).toUInt32.toUInt16.toUInt32.toInt32)), (.int (0 : Int32)), (.ref a443)]))) (fun t_ kont => XS.i2c X438.here hx rfl (hb hby at_52) rfl kont) ?_
    obtain ⟨c451, A452, q453, S454, M455, H456, U457⟩ := id V450
    obtain ⟨T458, h459, X460, e461, W462, st463⟩ := stC X438 hx hZ e439 A452 (j := (0 : Int32)) (inb_of S454 ⟨(by decide : ¬ ((0 : Int32) < (0 : Int32))), (by decide : (0 : Int32) < (2 : Int32))⟩) (g := (mkF m 53 #[iv v0, iv v1, iv v2, iv v3, iv v4, iv v5, iv (1 : Int32), iv mL, iv mC, iv sL, iv sC, rv a443, .unset, .unset, .unset, .unset, .unset, .unset, .unset] [(.int ((v0 &&& (255 : Int32)).toUInt32.toUInt16.toUInt32.toInt32)), (.int (0 : Int32)), (.ref a443)])) rfl rfl (hb hby at_53)
    have N464 := Fr.snoc X460 N0 ag446
    have Z465 := Nat.le_trans Z447 (Keep.of_wr W462).1
    have hk466 := Nat.le_trans hk448 (Keep.of_wr W462).1
    have O467 := O449.wr W462 ag446
    have V468 : Arv Z h459 a443 k437 .char (2 : Int32) [(.int (nar .char ((v0 &&& (255 : Int32)).toUInt32.toUInt16.toUInt32.toInt32))), (.int (0 : Int32))] (.int (0 : Int32)) := (Arv.set A452 q453 S454 M455 H456 U457 (fits_nar_char _) W462 0 rfl (Nat.le_of_ble_eq_true rfl))
    refine own_bk (S' := (T458.setTop (mkF m 54 #[iv v0, iv v1, iv v2, iv v3, iv v4, iv v5, iv (1 : Int32), iv mL, iv mC, iv sL, iv sC, rv a443, .unset, .unset, .unset, .unset, .unset, .unset, .unset] []))) st463 ?_
    refine own_bk (S' := (T458.setTop (mkF m 56 #[iv v0, iv v1, iv v2, iv v3, iv v4, iv v5, iv (1 : Int32), iv mL, iv mC, iv sL, iv sC, rv a443, .unset, .unset, .unset, .unset, .unset, .unset, .unset] [(.ref a443)]))) (fun t_ kont => XS.aload X460.here hx rfl (hb hby at_54) rfl rfl kont) ?_
    refine own_bk (S' := (T458.setTop (mkF m 57 #[iv v0, iv v1, iv v2, iv v3, iv v4, iv v5, iv (1 : Int32), iv mL, iv mC, iv sL, iv sC, rv a443, .unset, .unset, .unset, .unset, .unset, .unset, .unset] [(.int (1 : Int32)), (.ref a443)]))) (fun t_ kont => XS.iconst X460.here hx rfl (hb hby at_56) kont) ?_
    refine own_bk (S' := (T458.setTop (mkF m 58 #[iv v0, iv v1, iv v2, iv v3, iv v4, iv v5, iv (1 : Int32), iv mL, iv mC, iv sL, iv sC, rv a443, .unset, .unset, .unset, .unset, .unset, .unset, .unset] [(.int v0), (.int (1 : Int32)), (.ref a443)]))) (fun t_ kont => XS.iloadN X460.here hx rfl (hb hby at_57) rfl kont) ?_
    refine own_bk (S' := (T458.setTop (mkF m 60 #[iv v0, iv v1, iv v2, iv v3, iv v4, iv v5, iv (1 : Int32), iv mL, iv mC, iv sL, iv sC, rv a443, .unset, .unset, .unset, .unset, .unset, .unset, .unset] [(.int (8 : Int32)), (.int v0), (.int (1 : Int32)), (.ref a443)]))) (fun t_ kont => XS.bipush X460.here hx rfl (hb hby at_58) kont) ?_
    refine own_bk (S' := (T458.setTop (mkF m 61 #[iv v0, iv v1, iv v2, iv v3, iv v4, iv v5, iv (1 : Int32), iv mL, iv mC, iv sL, iv sC, rv a443, .unset, .unset, .unset, .unset, .unset, .unset, .unset] [(.int (v0.toUInt32 >>> ((8 : Int32) &&& 31).toUInt32).toInt32), (.int (1 : Int32)), (.ref a443)]))) (fun t_ kont => XS.iushr X460.here hx rfl (hb hby at_60) rfl kont) ?_
    refine own_bk (S' := (T458.setTop (mkF m 64 #[iv v0, iv v1, iv v2, iv v3, iv v4, iv v5, iv (1 : Int32), iv mL, iv mC, iv sL, iv sC, rv a443, .unset, .unset, .unset, .unset, .unset, .unset, .unset] [(.int (255 : Int32)), (.int (v0.toUInt32 >>> ((8 : Int32) &&& 31).toUInt32).toInt32), (.int (1 : Int32)), (.ref a443)]))) (fun t_ kont => XS.sipush X460.here hx rfl (hb hby at_61) kont) ?_
    refine own_bk (S' := (T458.setTop (mkF m 65 #[iv v0, iv v1, iv v2, iv v3, iv v4, iv v5, iv (1 : Int32), iv mL, iv mC, iv sL, iv sC, rv a443, .unset, .unset, .unset, .unset, .unset, .unset, .unset] [(.int ((v0.toUInt32 >>> ((8 : Int32) &&& 31).toUInt32).toInt32 &&& (255 : Int32))), (.int (1 : Int32)), (.ref a443)]))) (fun t_ kont => XS.iand X460.here hx rfl (hb hby at_64) rfl kont) ?_
    refine own_bk (S' := (T458.setTop (mkF m 66 #[iv v0, iv v1, iv v2, iv v3, iv v4, iv v5, iv (1 : Int32), iv mL, iv mC, iv sL, iv sC, rv a443, .unset, .unset, .unset, .unset, .unset, .unset, .unset] [(.int (((v0.toUInt32 >>> ((8 : Int32) &&& 31).toUInt32).toInt32 &&& (255 : Int32)).toUInt32.toUInt16.toUInt32.toInt32)), (.int (1 : Int32)), (.ref a443)]))) (fun t_ kont => XS.i2c X460.here hx rfl (hb hby at_65) rfl kont) ?_
    obtain ⟨c469, A470, q471, S472, M473, H474, U475⟩ := id V468
    obtain ⟨T476, h477, X478, e479, W480, st481⟩ := stC X460 hx hZ e461 A470 (j := (1 : Int32)) (inb_of S472 ⟨(by decide : ¬ ((1 : Int32) < (0 : Int32))), (by decide : (1 : Int32) < (2 : Int32))⟩) (g := (mkF m 66 #[iv v0, iv v1, iv v2, iv v3, iv v4, iv v5, iv (1 : Int32), iv mL, iv mC, iv sL, iv sC, rv a443, .unset, .unset, .unset, .unset, .unset, .unset, .unset] [(.int (((v0.toUInt32 >>> ((8 : Int32) &&& 31).toUInt32).toInt32 &&& (255 : Int32)).toUInt32.toUInt16.toUInt32.toInt32)), (.int (1 : Int32)), (.ref a443)])) rfl rfl (hb hby at_66)
    have N482 := Fr.snoc X478 N464 ag446
    have Z483 := Nat.le_trans Z465 (Keep.of_wr W480).1
    have hk484 := Nat.le_trans hk466 (Keep.of_wr W480).1
    have O485 := O467.wr W480 ag446
    have V486 : Arv Z h477 a443 k437 .char (2 : Int32) [(.int (nar .char ((v0 &&& (255 : Int32)).toUInt32.toUInt16.toUInt32.toInt32))), (.int (nar .char (((v0.toUInt32 >>> ((8 : Int32) &&& 31).toUInt32).toInt32 &&& (255 : Int32)).toUInt32.toUInt16.toUInt32.toInt32)))] (.int (0 : Int32)) := (Arv.set A470 q471 S472 M473 H474 U475 (fits_nar_char _) W480 1 rfl (Nat.le_of_ble_eq_true rfl))
    refine own_bk (S' := (T476.setTop (mkF m 67 #[iv v0, iv v1, iv v2, iv v3, iv v4, iv v5, iv (1 : Int32), iv mL, iv mC, iv sL, iv sC, rv a443, .unset, .unset, .unset, .unset, .unset, .unset, .unset] []))) st481 ?_
    refine own_bk (S' := (T476.setTop (mkF m 68 #[iv v0, iv v1, iv v2, iv v3, iv v4, iv v5, iv (1 : Int32), iv mL, iv mC, iv sL, iv sC, rv a443, .unset, .unset, .unset, .unset, .unset, .unset, .unset] [(.int (2 : Int32))]))) (fun t_ kont => XS.iconst X478.here hx rfl (hb hby at_67) kont) ?_
    obtain ⟨T487, h488, k489, X490, e491, E492, A493, st494⟩ := newP X478 hx hZ (hw _ (List.mem_of_getElem? (i := 1) rfl)) e479 (g := (mkF m 68 #[iv v0, iv v1, iv v2, iv v3, iv v4, iv v5, iv (1 : Int32), iv mL, iv mC, iv sL, iv sC, rv a443, .unset, .unset, .unset, .unset, .unset, .unset, .unset] [(.int (2 : Int32))])) rfl (hb hby at_68) rfl (by decide : ¬ ((2 : Int32) < (0 : Int32))) (cap := 2) (by decide : (2 : Int32).toNatClampNeg ≤ 2) (by decide) (by decide) (by decide)
    obtain ⟨a495, g496⟩ : ∃ z, z = h477.size := ⟨_, rfl⟩
    rw [← g496] at A493 st494
    have ne498 : a443 ≠ a495 := Nat.ne_of_lt (Nat.lt_of_lt_of_le V486.lt (Nat.le_of_eq g496.symm))
    have ag499 : n0 ≤ a495 := Nat.le_trans Z483 (Nat.le_of_eq g496.symm)
    have V500 := (V486.ext E492)
    have Z501 := Nat.le_trans Z483 E492.1
    have hk502 := Nat.le_trans hk484 E492.1
    have O503 := O485.ext E492
    have V497 : Arv Z h488 a495 k489 .char (2 : Int32) [] (.int (0 : Int32)) := (Arv.new A493 (by decide : ¬ ((2 : Int32) < (0 : Int32))))
    have V504 : Arv Z h488 a495 k489 .char (2 : Int32) [(.int (0 : Int32)), (.int (0 : Int32))] (.int (0 : Int32)) := (V497.pad (pad_rep [] (.int (0 : Int32)) 2))
    refine own_bk (S' := (T487.setTop (mkF m 70 #[iv v0, iv v1, iv v2, iv v3, iv v4, iv v5, iv (1 : Int32), iv mL, iv mC, iv sL, iv sC, rv a443, .unset, .unset, .unset, .unset, .unset, .unset, .unset] [(.ref a495)]))) st494 ?_
    refine own_bk (S' := (T487.setTop (mkF m 72 #[iv v0, iv v1, iv v2, iv v3, iv v4, iv v5, iv (1 : Int32), iv mL, iv mC, iv sL, iv sC, rv a443, rv a495, .unset, .unset, .unset, .unset, .unset, .unset] []))) (fun t_ kont => XS.astore X490.here hx rfl (hb hby at_70) rfl rfl (l' := #[iv v0, iv v1, iv v2, iv v3, iv v4, iv v5, iv (1 : Int32), iv mL, iv mC, iv sL, iv sC, rv a443, rv a495, .unset, .unset, .unset, .unset, .unset, .unset]) rfl kont) ?_
    refine own_bk (S' := (T487.setTop (mkF m 74 #[iv v0, iv v1, iv v2, iv v3, iv v4, iv v5, iv (1 : Int32), iv mL, iv mC, iv sL, iv sC, rv a443, rv a495, .unset, .unset, .unset, .unset, .unset, .unset] [(.ref a495)]))) (fun t_ kont => XS.aload X490.here hx rfl (hb hby at_72) rfl rfl kont) ?_
    refine own_bk (S' := (T487.setTop (mkF m 75 #[iv v0, iv v1, iv v2, iv v3, iv v4, iv v5, iv (1 : Int32), iv mL, iv mC, iv sL, iv sC, rv a443, rv a495, .unset, .unset, .unset, .unset, .unset, .unset] [(.int (0 : Int32)), (.ref a495)]))) (fun t_ kont => XS.iconst X490.here hx rfl (hb hby at_74) kont) ?_
    refine own_bk (S' := (T487.setTop (mkF m 76 #[iv v0, iv v1, iv v2, iv v3, iv v4, iv v5, iv (1 : Int32), iv mL, iv mC, iv sL, iv sC, rv a443, rv a495, .unset, .unset, .unset, .unset, .unset, .unset] [(.int v3), (.int (0 : Int32)), (.ref a495)]))) (fun t_ kont => XS.iloadN X490.here hx rfl (hb hby at_75) rfl kont) ?_
    refine own_bk (S' := (T487.setTop (mkF m 79 #[iv v0, iv v1, iv v2, iv v3, iv v4, iv v5, iv (1 : Int32), iv mL, iv mC, iv sL, iv sC, rv a443, rv a495, .unset, .unset, .unset, .unset, .unset, .unset] [(.int (255 : Int32)), (.int v3), (.int (0 : Int32)), (.ref a495)]))) (fun t_ kont => XS.sipush X490.here hx rfl (hb hby at_76) kont) ?_
    refine own_bk (S' := (T487.setTop (mkF m 80 #[iv v0, iv v1, iv v2, iv v3, iv v4, iv v5, iv (1 : Int32), iv mL, iv mC, iv sL, iv sC, rv a443, rv a495, .unset, .unset, .unset, .unset, .unset, .unset] [(.int (v3 &&& (255 : Int32))), (.int (0 : Int32)), (.ref a495)]))) (fun t_ kont => XS.iand X490.here hx rfl (hb hby at_79) rfl kont) ?_
    refine own_bk (S' := (T487.setTop (mkF m 81 #[iv v0, iv v1, iv v2, iv v3, iv v4, iv v5, iv (1 : Int32), iv mL, iv mC, iv sL, iv sC, rv a443, rv a495, .unset, .unset, .unset, .unset, .unset, .unset] [(.int ((v3 &&& (255 : Int32)).toUInt32.toUInt16.toUInt32.toInt32)), (.int (0 : Int32)), (.ref a495)]))) (fun t_ kont => XS.i2c X490.here hx rfl (hb hby at_80) rfl kont) ?_
    obtain ⟨c505, A506, q507, S508, M509, H510, U511⟩ := id V504
    obtain ⟨T512, h513, X514, e515, W516, st517⟩ := stC X490 hx hZ e491 A506 (j := (0 : Int32)) (inb_of S508 ⟨(by decide : ¬ ((0 : Int32) < (0 : Int32))), (by decide : (0 : Int32) < (2 : Int32))⟩) (g := (mkF m 81 #[iv v0, iv v1, iv v2, iv v3, iv v4, iv v5, iv (1 : Int32), iv mL, iv mC, iv sL, iv sC, rv a443, rv a495, .unset, .unset, .unset, .unset, .unset, .unset] [(.int ((v3 &&& (255 : Int32)).toUInt32.toUInt16.toUInt32.toInt32)), (.int (0 : Int32)), (.ref a495)])) rfl rfl (hb hby at_81)
    have N518 := Fr.snoc X514 N482 ag499
    have V519 := (V500.other W516 ne498)
    have Z520 := Nat.le_trans Z501 (Keep.of_wr W516).1
    have hk521 := Nat.le_trans hk502 (Keep.of_wr W516).1
    have O522 := O503.wr W516 ag499
    have V523 : Arv Z h513 a495 k489 .char (2 : Int32) [(.int (nar .char ((v3 &&& (255 : Int32)).toUInt32.toUInt16.toUInt32.toInt32))), (.int (0 : Int32))] (.int (0 : Int32)) := (Arv.set A506 q507 S508 M509 H510 U511 (fits_nar_char _) W516 0 rfl (Nat.le_of_ble_eq_true rfl))
    refine own_bk (S' := (T512.setTop (mkF m 82 #[iv v0, iv v1, iv v2, iv v3, iv v4, iv v5, iv (1 : Int32), iv mL, iv mC, iv sL, iv sC, rv a443, rv a495, .unset, .unset, .unset, .unset, .unset, .unset] []))) st517 ?_
    refine own_bk (S' := (T512.setTop (mkF m 84 #[iv v0, iv v1, iv v2, iv v3, iv v4, iv v5, iv (1 : Int32), iv mL, iv mC, iv sL, iv sC, rv a443, rv a495, .unset, .unset, .unset, .unset, .unset, .unset] [(.ref a495)]))) (fun t_ kont => XS.aload X514.here hx rfl (hb hby at_82) rfl rfl kont) ?_
    refine own_bk (S' := (T512.setTop (mkF m 85 #[iv v0, iv v1, iv v2, iv v3, iv v4, iv v5, iv (1 : Int32), iv mL, iv mC, iv sL, iv sC, rv a443, rv a495, .unset, .unset, .unset, .unset, .unset, .unset] [(.int (1 : Int32)), (.ref a495)]))) (fun t_ kont => XS.iconst X514.here hx rfl (hb hby at_84) kont) ?_
    refine own_bk (S' := (T512.setTop (mkF m 86 #[iv v0, iv v1, iv v2, iv v3, iv v4, iv v5, iv (1 : Int32), iv mL, iv mC, iv sL, iv sC, rv a443, rv a495, .unset, .unset, .unset, .unset, .unset, .unset] [(.int v3), (.int (1 : Int32)), (.ref a495)]))) (fun t_ kont => XS.iloadN X514.here hx rfl (hb hby at_85) rfl kont) ?_
    refine own_bk (S' := (T512.setTop (mkF m 88 #[iv v0, iv v1, iv v2, iv v3, iv v4, iv v5, iv (1 : Int32), iv mL, iv mC, iv sL, iv sC, rv a443, rv a495, .unset, .unset, .unset, .unset, .unset, .unset] [(.int (8 : Int32)), (.int v3), (.int (1 : Int32)), (.ref a495)]))) (fun t_ kont => XS.bipush X514.here hx rfl (hb hby at_86) kont) ?_
    refine own_bk (S' := (T512.setTop (mkF m 89 #[iv v0, iv v1, iv v2, iv v3, iv v4, iv v5, iv (1 : Int32), iv mL, iv mC, iv sL, iv sC, rv a443, rv a495, .unset, .unset, .unset, .unset, .unset, .unset] [(.int (v3.toUInt32 >>> ((8 : Int32) &&& 31).toUInt32).toInt32), (.int (1 : Int32)), (.ref a495)]))) (fun t_ kont => XS.iushr X514.here hx rfl (hb hby at_88) rfl kont) ?_
    refine own_bk (S' := (T512.setTop (mkF m 92 #[iv v0, iv v1, iv v2, iv v3, iv v4, iv v5, iv (1 : Int32), iv mL, iv mC, iv sL, iv sC, rv a443, rv a495, .unset, .unset, .unset, .unset, .unset, .unset] [(.int (255 : Int32)), (.int (v3.toUInt32 >>> ((8 : Int32) &&& 31).toUInt32).toInt32), (.int (1 : Int32)), (.ref a495)]))) (fun t_ kont => XS.sipush X514.here hx rfl (hb hby at_89) kont) ?_
    refine own_bk (S' := (T512.setTop (mkF m 93 #[iv v0, iv v1, iv v2, iv v3, iv v4, iv v5, iv (1 : Int32), iv mL, iv mC, iv sL, iv sC, rv a443, rv a495, .unset, .unset, .unset, .unset, .unset, .unset] [(.int ((v3.toUInt32 >>> ((8 : Int32) &&& 31).toUInt32).toInt32 &&& (255 : Int32))), (.int (1 : Int32)), (.ref a495)]))) (fun t_ kont => XS.iand X514.here hx rfl (hb hby at_92) rfl kont) ?_
    refine own_bk (S' := (T512.setTop (mkF m 94 #[iv v0, iv v1, iv v2, iv v3, iv v4, iv v5, iv (1 : Int32), iv mL, iv mC, iv sL, iv sC, rv a443, rv a495, .unset, .unset, .unset, .unset, .unset, .unset] [(.int (((v3.toUInt32 >>> ((8 : Int32) &&& 31).toUInt32).toInt32 &&& (255 : Int32)).toUInt32.toUInt16.toUInt32.toInt32)), (.int (1 : Int32)), (.ref a495)]))) (fun t_ kont => XS.i2c X514.here hx rfl (hb hby at_93) rfl kont) ?_
    obtain ⟨c524, A525, q526, S527, M528, H529, U530⟩ := id V523
    obtain ⟨T531, h532, X533, e534, W535, st536⟩ := stC X514 hx hZ e515 A525 (j := (1 : Int32)) (inb_of S527 ⟨(by decide : ¬ ((1 : Int32) < (0 : Int32))), (by decide : (1 : Int32) < (2 : Int32))⟩) (g := (mkF m 94 #[iv v0, iv v1, iv v2, iv v3, iv v4, iv v5, iv (1 : Int32), iv mL, iv mC, iv sL, iv sC, rv a443, rv a495, .unset, .unset, .unset, .unset, .unset, .unset] [(.int (((v3.toUInt32 >>> ((8 : Int32) &&& 31).toUInt32).toInt32 &&& (255 : Int32)).toUInt32.toUInt16.toUInt32.toInt32)), (.int (1 : Int32)), (.ref a495)])) rfl rfl (hb hby at_94)
    have N537 := Fr.snoc X533 N518 ag499
    have V538 := (V519.other W535 ne498)
    have Z539 := Nat.le_trans Z520 (Keep.of_wr W535).1
    have hk540 := Nat.le_trans hk521 (Keep.of_wr W535).1
    have O541 := O522.wr W535 ag499
    have V542 : Arv Z h532 a495 k489 .char (2 : Int32) [(.int (nar .char ((v3 &&& (255 : Int32)).toUInt32.toUInt16.toUInt32.toInt32))), (.int (nar .char (((v3.toUInt32 >>> ((8 : Int32) &&& 31).toUInt32).toInt32 &&& (255 : Int32)).toUInt32.toUInt16.toUInt32.toInt32)))] (.int (0 : Int32)) := (Arv.set A525 q526 S527 M528 H529 U530 (fits_nar_char _) W535 1 rfl (Nat.le_of_ble_eq_true rfl))
    refine own_bk (S' := (T531.setTop (mkF m 95 #[iv v0, iv v1, iv v2, iv v3, iv v4, iv v5, iv (1 : Int32), iv mL, iv mC, iv sL, iv sC, rv a443, rv a495, .unset, .unset, .unset, .unset, .unset, .unset] []))) st536 ?_
    obtain ⟨T543, h544, X545, e546, E547, A548, D549, -, st550⟩ := newO X533 hx hZ hown (hw _ (List.mem_of_getElem? (i := 2) rfl)) (hw _ (List.mem_of_getElem? (i := 3) rfl)) (hw _ (List.mem_of_getElem? (i := 4) rfl)) e534 (g := (mkF m 95 #[iv v0, iv v1, iv v2, iv v3, iv v4, iv v5, iv (1 : Int32), iv mL, iv mC, iv sL, iv sC, rv a443, rv a495, .unset, .unset, .unset, .unset, .unset, .unset] [])) rfl (hb hby at_95) (by decide) (by decide)
    obtain ⟨a551, g552⟩ : ∃ z, z = h532.size := ⟨_, rfl⟩
    rw [← g552] at A548 D549 st550
    have ne553 : a443 ≠ a551 := Nat.ne_of_lt (Nat.lt_of_lt_of_le V538.lt (Nat.le_of_eq g552.symm))
    have ne554 : a495 ≠ a551 := Nat.ne_of_lt (Nat.lt_of_lt_of_le V542.lt (Nat.le_of_eq g552.symm))
    have ag555 : n0 ≤ a551 := Nat.le_trans Z539 (Nat.le_of_eq g552.symm)
    have V556 := (V538.ext E547)
    have V557 := (V542.ext E547)
    have Z558 := Nat.le_trans Z539 E547.1
    have hk559 := Nat.le_trans hk540 E547.1
    have O560 := O541.ext E547
    have F561 : Fld Z h544 a551 "java/lang/String" "value" "[B" .null := (D549 (Or.inr (hw _ (List.mem_of_getElem? (i := 30) rfl))) (ty := (.array .byte)) (by decide +kernel))
    have F562 : Fld Z h544 a551 "java/lang/String" "coder" "B" (.int (0 : Int32)) := (D549 (Or.inr (hw _ (List.mem_of_getElem? (i := 28) rfl))) (ty := .byte) (by decide +kernel))
    refine own_bk (S' := (T543.setTop (mkF m 98 #[iv v0, iv v1, iv v2, iv v3, iv v4, iv v5, iv (1 : Int32), iv mL, iv mC, iv sL, iv sC, rv a443, rv a495, .unset, .unset, .unset, .unset, .unset, .unset] [(.ref a551)]))) st550 ?_
    refine own_bk (S' := (T543.setTop (mkF m 99 #[iv v0, iv v1, iv v2, iv v3, iv v4, iv v5, iv (1 : Int32), iv mL, iv mC, iv sL, iv sC, rv a443, rv a495, .unset, .unset, .unset, .unset, .unset, .unset] [(.ref a551), (.ref a551)]))) (fun t_ kont => XS.dup X545.here hx rfl (hb hby at_98) rfl rfl kont) ?_
    refine own_bk (S' := (T543.setTop (mkF m 101 #[iv v0, iv v1, iv v2, iv v3, iv v4, iv v5, iv (1 : Int32), iv mL, iv mC, iv sL, iv sC, rv a443, rv a495, .unset, .unset, .unset, .unset, .unset, .unset] [(.ref a443), (.ref a551), (.ref a551)]))) (fun t_ kont => XS.aload X545.here hx rfl (hb hby at_99) rfl rfl kont) ?_
    have hp563 : ∀ c ∈ ([(nar .char ((v0 &&& (255 : Int32)).toUInt32.toUInt16.toUInt32.toInt32)), (nar .char (((v0.toUInt32 >>> ((8 : Int32) &&& 31).toUInt32).toInt32 &&& (255 : Int32)).toUInt32.toUInt16.toUInt32.toInt32))] : List Int32), ¬ c < 0 ∧ ¬ (255 : Int32) < c := by
      intro c hc; simp only [List.mem_cons, List.not_mem_nil, or_false] at hc; rcases hc with rfl | rfl
      · exact own_n255 v0
      · exact own_n255 _
    have hws564 : ∀ d ∈ StrChars.Road.words, d.before a0 Z = true := fun d hd => hw d ((by decide +kernel : ∀ d ∈ StrChars.Road.words, d ∈ tables_1) d hd)
    obtain ⟨_, _, ⟨T575, L576, k577, n578⟩, -, X579, ⟨Lc580, hQ581, l582, y583, z584⟩, st585⟩ := X545.specialBack hx (y := (⟨"java/lang/String", "<init>", "([C)V"⟩ : MethodName)) rfl hown (mvT hZ (hw _ (List.mem_of_getElem? (i := 5) rfl))) (mvT hZ (hw _ (List.mem_of_getElem? (i := 6) rfl))) (mvT hZ (hw _ (List.mem_of_getElem? (i := 7) rfl))) (by decide) (StrChars.Road.backV (W := 1) hZ hws564 (kI := 4) (hw _ (List.mem_of_getElem? (i := 3) rfl)) (cs := ([(nar .char ((v0 &&& (255 : Int32)).toUInt32.toUInt16.toUInt32.toInt32)), (nar .char (((v0.toUInt32 >>> ((8 : Int32) &&& 31).toUInt32).toInt32 &&& (255 : Int32)).toUInt32.toUInt16.toUInt32.toInt32))] : List Int32)) (bs := (([(nar .char ((v0 &&& (255 : Int32)).toUInt32.toUInt16.toUInt32.toInt32)), (nar .char (((v0.toUInt32 >>> ((8 : Int32) &&& 31).toUInt32).toInt32 &&& (255 : Int32)).toUInt32.toUInt16.toUInt32.toInt32))] : List Int32)).map (fun c => c.toInt8.toInt32)) (n := 2) ag555 Z558 A548 F561 F562 V556 (SC.ext O560.2) hcz rfl rfl (by decide) (by decide) hp563 rfl (by decide) (by decide)) (g := (mkF m 101 #[iv v0, iv v1, iv v2, iv v3, iv v4, iv v5, iv (1 : Int32), iv mL, iv mC, iv sL, iv sC, rv a443, rv a495, .unset, .unset, .unset, .unset, .unset, .unset] [(.ref a443), (.ref a551), (.ref a551)])) rfl (by rw [hml]; rfl) (Steps.refl _) (a := a551) (argsL := [(.ref a443)]) (rest := [(.ref a551)]) (lenOf (by decide +kernel : parseMethodDescriptor "([C)V" = some ⟨[(.array .char)], none⟩) rfl) rfl (by show 2 * 0 + _ ≤ _; exact Nat.le_of_eq rfl) (hb hby at_101) (fun _ _ => ⟨rfl, e546, (by decide : 3 + 1 ≤ _), (by decide : 8 + 2 ≤ _)⟩)
    dsimp only [Pt.U, Pt.locs, Pt.cells, Pt.slots] at X579 l582 y583 z584 st585 hQ581
    subst l582 y583 z584
    obtain ⟨rfl, N586, K565, g573, g568, t566, kb567, u570, u571, u572, g569, V574⟩ := hQ581
    have N588 := Fr.app N537 N586
    have V589 := (V556.keep K565 (ninS ne553 nin0))
    have V590 := (V557.keep K565 (ninS ne554 nin0))
    have E591 := (A548.keep K565)
    have Z592 := Nat.le_trans Z558 K565.1
    have hk593 := Nat.le_trans hk559 K565.1
    have O594 := O560.keep K565 (allS ag555 all0)
    refine own_tr (S' := (T575.setTop (mkF m 104 #[iv v0, iv v1, iv v2, iv v3, iv v4, iv v5, iv (1 : Int32), iv mL, iv mC, iv sL, iv sC, rv a443, rv a495, .unset, .unset, .unset, .unset, .unset, .unset] [(.ref a551)]))) st585 ?_
    refine own_bk (S' := (T575.setTop (mkF m 106 #[iv v0, iv v1, iv v2, iv v3, iv v4, iv v5, iv (1 : Int32), iv mL, iv mC, iv sL, iv sC, rv a443, rv a495, rv a551, .unset, .unset, .unset, .unset, .unset] []))) (fun t_ kont => XS.astore X579.here hx rfl (hb hby at_104) rfl rfl (l' := #[iv v0, iv v1, iv v2, iv v3, iv v4, iv v5, iv (1 : Int32), iv mL, iv mC, iv sL, iv sC, rv a443, rv a495, rv a551, .unset, .unset, .unset, .unset, .unset]) rfl kont) ?_
    obtain ⟨T595, h596, X597, e598, E599, A600, D601, -, st602⟩ := newO X579 hx hZ hown (hw _ (List.mem_of_getElem? (i := 2) rfl)) (hw _ (List.mem_of_getElem? (i := 3) rfl)) (hw _ (List.mem_of_getElem? (i := 4) rfl)) rfl (g := (mkF m 106 #[iv v0, iv v1, iv v2, iv v3, iv v4, iv v5, iv (1 : Int32), iv mL, iv mC, iv sL, iv sC, rv a443, rv a495, rv a551, .unset, .unset, .unset, .unset, .unset] [])) rfl (hb hby at_106) (by decide) (by decide)
    obtain ⟨a603, g604⟩ : ∃ z, z = T575.heap.size := ⟨_, rfl⟩
    rw [← g604] at A600 D601 st602
    have ne605 : a443 ≠ a603 := Nat.ne_of_lt (Nat.lt_of_lt_of_le V589.lt (Nat.le_of_eq g604.symm))
    have ne606 : a495 ≠ a603 := Nat.ne_of_lt (Nat.lt_of_lt_of_le V590.lt (Nat.le_of_eq g604.symm))
    have ne607 : a551 ≠ a603 := Nat.ne_of_lt (Nat.lt_of_lt_of_le E591.lt (Nat.le_of_eq g604.symm))
    have ag608 : n0 ≤ a603 := Nat.le_trans Z592 (Nat.le_of_eq g604.symm)
    have V609 := (V589.ext E599)
    have V610 := (V590.ext E599)
    have E611 := (E591.ext E599)
    have Z612 := Nat.le_trans Z592 E599.1
    have hk613 := Nat.le_trans hk593 E599.1
    have O614 := O594.ext E599
    have F615 : Fld Z h596 a603 "java/lang/String" "value" "[B" .null := (D601 (Or.inr (hw _ (List.mem_of_getElem? (i := 30) rfl))) (ty := (.array .byte)) (by decide +kernel))
    have F616 : Fld Z h596 a603 "java/lang/String" "coder" "B" (.int (0 : Int32)) := (D601 (Or.inr (hw _ (List.mem_of_getElem? (i := 28) rfl))) (ty := .byte) (by decide +kernel))
    refine own_bk (S' := (T595.setTop (mkF m 109 #[iv v0, iv v1, iv v2, iv v3, iv v4, iv v5, iv (1 : Int32), iv mL, iv mC, iv sL, iv sC, rv a443, rv a495, rv a551, .unset, .unset, .unset, .unset, .unset] [(.ref a603)]))) st602 ?_
    refine own_bk (S' := (T595.setTop (mkF m 110 #[iv v0, iv v1, iv v2, iv v3, iv v4, iv v5, iv (1 : Int32), iv mL, iv mC, iv sL, iv sC, rv a443, rv a495, rv a551, .unset, .unset, .unset, .unset, .unset] [(.ref a603), (.ref a603)]))) (fun t_ kont => XS.dup X597.here hx rfl (hb hby at_109) rfl rfl kont) ?_
    refine own_bk (S' := (T595.setTop (mkF m 112 #[iv v0, iv v1, iv v2, iv v3, iv v4, iv v5, iv (1 : Int32), iv mL, iv mC, iv sL, iv sC, rv a443, rv a495, rv a551, .unset, .unset, .unset, .unset, .unset] [(.ref a495), (.ref a603), (.ref a603)]))) (fun t_ kont => XS.aload X597.here hx rfl (hb hby at_110) rfl rfl kont) ?_
    have hp617 : ∀ c ∈ ([(nar .char ((v3 &&& (255 : Int32)).toUInt32.toUInt16.toUInt32.toInt32)), (nar .char (((v3.toUInt32 >>> ((8 : Int32) &&& 31).toUInt32).toInt32 &&& (255 : Int32)).toUInt32.toUInt16.toUInt32.toInt32))] : List Int32), ¬ c < 0 ∧ ¬ (255 : Int32) < c := by
      intro c hc; simp only [List.mem_cons, List.not_mem_nil, or_false] at hc; rcases hc with rfl | rfl
      · exact own_n255 v3
      · exact own_n255 _
    have hws618 : ∀ d ∈ StrChars.Road.words, d.before a0 Z = true := fun d hd => hw d ((by decide +kernel : ∀ d ∈ StrChars.Road.words, d ∈ tables_1) d hd)
    obtain ⟨_, _, ⟨T629, L630, k631, n632⟩, -, X633, ⟨Lc634, hQ635, l636, y637, z638⟩, st639⟩ := X597.specialBack hx (y := (⟨"java/lang/String", "<init>", "([C)V"⟩ : MethodName)) rfl hown (mvT hZ (hw _ (List.mem_of_getElem? (i := 5) rfl))) (mvT hZ (hw _ (List.mem_of_getElem? (i := 6) rfl))) (mvT hZ (hw _ (List.mem_of_getElem? (i := 7) rfl))) (by decide) (StrChars.Road.backV (W := 1) hZ hws618 (kI := 4) (hw _ (List.mem_of_getElem? (i := 3) rfl)) (cs := ([(nar .char ((v3 &&& (255 : Int32)).toUInt32.toUInt16.toUInt32.toInt32)), (nar .char (((v3.toUInt32 >>> ((8 : Int32) &&& 31).toUInt32).toInt32 &&& (255 : Int32)).toUInt32.toUInt16.toUInt32.toInt32))] : List Int32)) (bs := (([(nar .char ((v3 &&& (255 : Int32)).toUInt32.toUInt16.toUInt32.toInt32)), (nar .char (((v3.toUInt32 >>> ((8 : Int32) &&& 31).toUInt32).toInt32 &&& (255 : Int32)).toUInt32.toUInt16.toUInt32.toInt32))] : List Int32)).map (fun c => c.toInt8.toInt32)) (n := 2) ag608 Z612 A600 F615 F616 V610 (SC.ext O614.2) hcz rfl rfl (by decide) (by decide) hp617 rfl (by decide) (by decide)) (g := (mkF m 112 #[iv v0, iv v1, iv v2, iv v3, iv v4, iv v5, iv (1 : Int32), iv mL, iv mC, iv sL, iv sC, rv a443, rv a495, rv a551, .unset, .unset, .unset, .unset, .unset] [(.ref a495), (.ref a603), (.ref a603)])) rfl (by rw [hml]; rfl) (Steps.refl _) (a := a603) (argsL := [(.ref a495)]) (rest := [(.ref a603)]) (lenOf (by decide +kernel : parseMethodDescriptor "([C)V" = some ⟨[(.array .char)], none⟩) rfl) rfl (by show 2 * 0 + _ ≤ _; exact Nat.le_of_eq rfl) (hb hby at_112) (fun _ _ => ⟨rfl, e598, (by decide : 5 + 1 ≤ _), (by decide : 14 + 2 ≤ _)⟩)
    dsimp only [Pt.U, Pt.locs, Pt.cells, Pt.slots] at X633 l636 y637 z638 st639 hQ635
    subst l636 y637 z638
    obtain ⟨rfl, N640, K619, g627, g622, t620, kb621, u624, u625, u626, g623, V628⟩ := hQ635
    have N642 := Fr.app N588 N640
    have V643 := (V609.keep K619 (ninS ne605 nin0))
    have V644 := (V610.keep K619 (ninS ne606 nin0))
    have E645 := (E611.keep K619)
    have E646 := (A600.keep K619)
    have Z647 := Nat.le_trans Z612 K619.1
    have hk648 := Nat.le_trans hk613 K619.1
    have O649 := O614.keep K619 (allS ag608 all0)
    refine own_tr (S' := (T629.setTop (mkF m 115 #[iv v0, iv v1, iv v2, iv v3, iv v4, iv v5, iv (1 : Int32), iv mL, iv mC, iv sL, iv sC, rv a443, rv a495, rv a551, .unset, .unset, .unset, .unset, .unset] [(.ref a603)]))) st639 ?_
    refine own_bk (S' := (T629.setTop (mkF m 117 #[iv v0, iv v1, iv v2, iv v3, iv v4, iv v5, iv (1 : Int32), iv mL, iv mC, iv sL, iv sC, rv a443, rv a495, rv a551, rv a603, .unset, .unset, .unset, .unset] []))) (fun t_ kont => XS.astore X633.here hx rfl (hb hby at_115) rfl rfl (l' := #[iv v0, iv v1, iv v2, iv v3, iv v4, iv v5, iv (1 : Int32), iv mL, iv mC, iv sL, iv sC, rv a443, rv a495, rv a551, rv a603, .unset, .unset, .unset, .unset]) rfl kont) ?_
    obtain ⟨T650, h651, X652, e653, E654, A655, D656, -, st657⟩ := newO X633 hx hZ hown (hw _ (List.mem_of_getElem? (i := 31) rfl)) (hw _ (List.mem_of_getElem? (i := 32) rfl)) (hw _ (List.mem_of_getElem? (i := 33) rfl)) rfl (g := (mkF m 117 #[iv v0, iv v1, iv v2, iv v3, iv v4, iv v5, iv (1 : Int32), iv mL, iv mC, iv sL, iv sC, rv a443, rv a495, rv a551, rv a603, .unset, .unset, .unset, .unset] [])) rfl (hb hby at_117) (by decide) (by decide)
    obtain ⟨a658, g659⟩ : ∃ z, z = T629.heap.size := ⟨_, rfl⟩
    rw [← g659] at A655 D656 st657
    have ne660 : a443 ≠ a658 := Nat.ne_of_lt (Nat.lt_of_lt_of_le V643.lt (Nat.le_of_eq g659.symm))
    have ne661 : a495 ≠ a658 := Nat.ne_of_lt (Nat.lt_of_lt_of_le V644.lt (Nat.le_of_eq g659.symm))
    have ne662 : a551 ≠ a658 := Nat.ne_of_lt (Nat.lt_of_lt_of_le E645.lt (Nat.le_of_eq g659.symm))
    have ne663 : a603 ≠ a658 := Nat.ne_of_lt (Nat.lt_of_lt_of_le E646.lt (Nat.le_of_eq g659.symm))
    have ag664 : n0 ≤ a658 := Nat.le_trans Z647 (Nat.le_of_eq g659.symm)
    have V665 := (V643.ext E654)
    have V666 := (V644.ext E654)
    have E667 := (E645.ext E654)
    have E668 := (E646.ext E654)
    have Z669 := Nat.le_trans Z647 E654.1
    have hk670 := Nat.le_trans hk648 E654.1
    have O671 := O649.ext E654
    have F672 : Fld Z h651 a658 "com/example/overweave/overweave/model/Position" "file" "Ljava/lang/String;" .null := (D656 (Or.inr (hw _ (List.mem_of_getElem? (i := 51) rfl))) (ty := (.object "java/lang/String")) (by decide +kernel))
    have F673 : Fld Z h651 a658 "com/example/overweave/overweave/model/Position" "line" "I" (.int (0 : Int32)) := (D656 (Or.inr (hw _ (List.mem_of_getElem? (i := 53) rfl))) (ty := .int) (by decide +kernel))
    have F674 : Fld Z h651 a658 "com/example/overweave/overweave/model/Position" "column" "I" (.int (0 : Int32)) := (D656 (Or.inr (hw _ (List.mem_of_getElem? (i := 55) rfl))) (ty := .int) (by decide +kernel))
    refine own_bk (S' := (T650.setTop (mkF m 120 #[iv v0, iv v1, iv v2, iv v3, iv v4, iv v5, iv (1 : Int32), iv mL, iv mC, iv sL, iv sC, rv a443, rv a495, rv a551, rv a603, .unset, .unset, .unset, .unset] [(.ref a658)]))) st657 ?_
    refine own_bk (S' := (T650.setTop (mkF m 121 #[iv v0, iv v1, iv v2, iv v3, iv v4, iv v5, iv (1 : Int32), iv mL, iv mC, iv sL, iv sC, rv a443, rv a495, rv a551, rv a603, .unset, .unset, .unset, .unset] [(.ref a658), (.ref a658)]))) (fun t_ kont => XS.dup X652.here hx rfl (hb hby at_120) rfl rfl kont) ?_
    refine own_bk (S' := (T650.setTop (mkF m 123 #[iv v0, iv v1, iv v2, iv v3, iv v4, iv v5, iv (1 : Int32), iv mL, iv mC, iv sL, iv sC, rv a443, rv a495, rv a551, rv a603, .unset, .unset, .unset, .unset] [(.ref a551), (.ref a658), (.ref a658)]))) (fun t_ kont => XS.aload X652.here hx rfl (hb hby at_121) rfl rfl kont) ?_
    refine own_bk (S' := (T650.setTop (mkF m 125 #[iv v0, iv v1, iv v2, iv v3, iv v4, iv v5, iv (1 : Int32), iv mL, iv mC, iv sL, iv sC, rv a443, rv a495, rv a551, rv a603, .unset, .unset, .unset, .unset] [(.int mL), (.ref a551), (.ref a658), (.ref a658)]))) (fun t_ kont => XS.iload X652.here hx rfl (hb hby at_123) rfl kont) ?_
    refine own_bk (S' := (T650.setTop (mkF m 127 #[iv v0, iv v1, iv v2, iv v3, iv v4, iv v5, iv (1 : Int32), iv mL, iv mC, iv sL, iv sC, rv a443, rv a495, rv a551, rv a603, .unset, .unset, .unset, .unset] [(.int mC), (.int mL), (.ref a551), (.ref a658), (.ref a658)]))) (fun t_ kont => XS.iload X652.here hx rfl (hb hby at_125) rfl kont) ?_
    obtain ⟨_, _, ⟨T680, L681, k682, n683⟩, -, X684, hS2_, hgr_, ⟨Lc685, hQ686, l687, y688, z689⟩, st690⟩ := X652.specialBackS hx (y := (⟨"com/example/overweave/overweave/model/Position", "<init>", "(Ljava/lang/String;II)V"⟩ : MethodName)) rfl hown (mvT hZ (hw _ (List.mem_of_getElem? (i := 34) rfl))) (mvT hZ (hw _ (List.mem_of_getElem? (i := 35) rfl))) (mvT hZ (hw _ (List.mem_of_getElem? (i := 36) rfl))) (by decide) (backOfS (W := 1) (rmPos l Z a0 hw [] a658 a551 mL mC h651 n0 Z669 O671 A655 ag664 F672 F673 F674 hmL hmC) hZ (hw _ (List.mem_of_getElem? (i := 36) rfl)) (hw _ (List.mem_of_getElem? (i := 33) rfl)) (by decide) (by decide)) (g := (mkF m 127 #[iv v0, iv v1, iv v2, iv v3, iv v4, iv v5, iv (1 : Int32), iv mL, iv mC, iv sL, iv sC, rv a443, rv a495, rv a551, rv a603, .unset, .unset, .unset, .unset] [(.int mC), (.int mL), (.ref a551), (.ref a658), (.ref a658)])) rfl (by rw [hml]; rfl) (Steps.refl _) (a := a658) (argsL := [(.ref a551), (.int mL), (.int mC)]) (rest := [(.ref a658)]) (lenOf (by decide +kernel : parseMethodDescriptor "(Ljava/lang/String;II)V" = some ⟨[(.object "java/lang/String"), .int, .int], none⟩) rfl) rfl (by show 2 * 0 + _ ≤ _; exact Nat.le_of_eq rfl) (hb hby at_127) (fun _ _ => ⟨rfl, e653, (by decide : 7 + 2 ≤ _), (by decide : 19 + 20 ≤ _)⟩)
    dsimp only [Pt.U, Pt.locs, Pt.cells, Pt.slots] at X684 l687 y688 z689 st690 hQ686 hS2_ hgr_
    subst l687 y688 z689
    obtain ⟨X691, hS, hZ, hown⟩ := rebS hS (by rw [show T650.heap = h651 from e653]; exact hk670) X684 hS2_ hgr_ hZ hown
    obtain ⟨rfl, N692, O676, K675, g677, g678, g679⟩ := hQ686
    have N694 := Fr.app N642 N692
    have V695 := (V665.keep K675 (ninS ne660 nin0))
    have V696 := (V666.keep K675 (ninS ne661 nin0))
    have E697 := (E667.keep K675)
    have E698 := (E668.keep K675)
    have E699 := (A655.keep K675)
    have Z700 := Nat.le_trans Z669 K675.1
    have O701 := O671.keep K675 (allS ag664 all0)
    refine own_tr (S' := (T680.setTop (mkF m 130 #[iv v0, iv v1, iv v2, iv v3, iv v4, iv v5, iv (1 : Int32), iv mL, iv mC, iv sL, iv sC, rv a443, rv a495, rv a551, rv a603, .unset, .unset, .unset, .unset] [(.ref a658)]))) st690 ?_
    refine own_bk (S' := (T680.setTop (mkF m 132 #[iv v0, iv v1, iv v2, iv v3, iv v4, iv v5, iv (1 : Int32), iv mL, iv mC, iv sL, iv sC, rv a443, rv a495, rv a551, rv a603, rv a658, .unset, .unset, .unset] []))) (fun t_ kont => XS.astore X691.here hx rfl (hb hby at_130) rfl rfl (l' := #[iv v0, iv v1, iv v2, iv v3, iv v4, iv v5, iv (1 : Int32), iv mL, iv mC, iv sL, iv sC, rv a443, rv a495, rv a551, rv a603, rv a658, .unset, .unset, .unset]) rfl kont) ?_
    refine own_bk (S' := (T680.setTop (mkF m 134 #[iv v0, iv v1, iv v2, iv v3, iv v4, iv v5, iv (1 : Int32), iv mL, iv mC, iv sL, iv sC, rv a443, rv a495, rv a551, rv a603, rv a658, .unset, .unset, .unset] [(.int (1 : Int32))]))) (fun t_ kont => XS.iload X691.here hx rfl (hb hby at_132) rfl kont) ?_
    refine own_bk (S' := (T680.setTop (mkF m 137 #[iv v0, iv v1, iv v2, iv v3, iv v4, iv v5, iv (1 : Int32), iv mL, iv mC, iv sL, iv sC, rv a443, rv a495, rv a551, rv a603, rv a658, .unset, .unset, .unset] []))) (fun t_ kont => XS.ifNo X691.here hx rfl (hb hby at_134) rfl ((if0 _ _).trans (feq (by decide : ¬ ((1 : Int32)) = ((0 : Int32)))).1) kont) ?_
    obtain ⟨T702, h703, X704, e705, E706, A707, D708, -, st709⟩ := newO X691 hx hZ hown (hw _ (List.mem_of_getElem? (i := 31) rfl)) (hw _ (List.mem_of_getElem? (i := 32) rfl)) (hw _ (List.mem_of_getElem? (i := 33) rfl)) rfl (g := (mkF m 137 #[iv v0, iv v1, iv v2, iv v3, iv v4, iv v5, iv (1 : Int32), iv mL, iv mC, iv sL, iv sC, rv a443, rv a495, rv a551, rv a603, rv a658, .unset, .unset, .unset] [])) rfl (hb hby at_137) (by decide) (by decide)
    obtain ⟨a710, g711⟩ : ∃ z, z = T680.heap.size := ⟨_, rfl⟩
    rw [← g711] at A707 D708 st709
    have ne712 : a443 ≠ a710 := Nat.ne_of_lt (Nat.lt_of_lt_of_le V695.lt (Nat.le_of_eq g711.symm))
    have ne713 : a495 ≠ a710 := Nat.ne_of_lt (Nat.lt_of_lt_of_le V696.lt (Nat.le_of_eq g711.symm))
    have ne714 : a551 ≠ a710 := Nat.ne_of_lt (Nat.lt_of_lt_of_le E697.lt (Nat.le_of_eq g711.symm))
    have ne715 : a603 ≠ a710 := Nat.ne_of_lt (Nat.lt_of_lt_of_le E698.lt (Nat.le_of_eq g711.symm))
    have ne716 : a658 ≠ a710 := Nat.ne_of_lt (Nat.lt_of_lt_of_le E699.lt (Nat.le_of_eq g711.symm))
    have ag717 : n0 ≤ a710 := Nat.le_trans Z700 (Nat.le_of_eq g711.symm)
    have V718 := (V695.ext E706)
    have V719 := (V696.ext E706)
    have E720 := (E697.ext E706)
    have E721 := (E698.ext E706)
    have E722 := (E699.ext E706)
    have F723 := (g677.ext E706)
    have F724 := (g678.ext E706)
    have F725 := (g679.ext E706)
    have Z726 := Nat.le_trans Z700 E706.1
    have hk727 := Nat.le_trans (Nat.le_refl _) E706.1
    have O728 := O676.ext E706
    have F729 : Fld Z h703 a710 "com/example/overweave/overweave/model/Position" "file" "Ljava/lang/String;" .null := (D708 (Or.inr (hw _ (List.mem_of_getElem? (i := 51) rfl))) (ty := (.object "java/lang/String")) (by decide +kernel))
    have F730 : Fld Z h703 a710 "com/example/overweave/overweave/model/Position" "line" "I" (.int (0 : Int32)) := (D708 (Or.inr (hw _ (List.mem_of_getElem? (i := 53) rfl))) (ty := .int) (by decide +kernel))
    have F731 : Fld Z h703 a710 "com/example/overweave/overweave/model/Position" "column" "I" (.int (0 : Int32)) := (D708 (Or.inr (hw _ (List.mem_of_getElem? (i := 55) rfl))) (ty := .int) (by decide +kernel))
    refine own_bk (S' := (T702.setTop (mkF m 140 #[iv v0, iv v1, iv v2, iv v3, iv v4, iv v5, iv (1 : Int32), iv mL, iv mC, iv sL, iv sC, rv a443, rv a495, rv a551, rv a603, rv a658, .unset, .unset, .unset] [(.ref a710)]))) st709 ?_
    refine own_bk (S' := (T702.setTop (mkF m 141 #[iv v0, iv v1, iv v2, iv v3, iv v4, iv v5, iv (1 : Int32), iv mL, iv mC, iv sL, iv sC, rv a443, rv a495, rv a551, rv a603, rv a658, .unset, .unset, .unset] [(.ref a710), (.ref a710)]))) (fun t_ kont => XS.dup X704.here hx rfl (hb hby at_140) rfl rfl kont) ?_
    refine own_bk (S' := (T702.setTop (mkF m 143 #[iv v0, iv v1, iv v2, iv v3, iv v4, iv v5, iv (1 : Int32), iv mL, iv mC, iv sL, iv sC, rv a443, rv a495, rv a551, rv a603, rv a658, .unset, .unset, .unset] [(.ref a603), (.ref a710), (.ref a710)]))) (fun t_ kont => XS.aload X704.here hx rfl (hb hby at_141) rfl rfl kont) ?_
    refine own_bk (S' := (T702.setTop (mkF m 145 #[iv v0, iv v1, iv v2, iv v3, iv v4, iv v5, iv (1 : Int32), iv mL, iv mC, iv sL, iv sC, rv a443, rv a495, rv a551, rv a603, rv a658, .unset, .unset, .unset] [(.int sL), (.ref a603), (.ref a710), (.ref a710)]))) (fun t_ kont => XS.iload X704.here hx rfl (hb hby at_143) rfl kont) ?_
    refine own_bk (S' := (T702.setTop (mkF m 147 #[iv v0, iv v1, iv v2, iv v3, iv v4, iv v5, iv (1 : Int32), iv mL, iv mC, iv sL, iv sC, rv a443, rv a495, rv a551, rv a603, rv a658, .unset, .unset, .unset] [(.int sC), (.int sL), (.ref a603), (.ref a710), (.ref a710)]))) (fun t_ kont => XS.iload X704.here hx rfl (hb hby at_145) rfl kont) ?_
    obtain ⟨_, _, ⟨T737, L738, k739, n740⟩, -, X741, hS2_, hgr_, ⟨Lc742, hQ743, l744, y745, z746⟩, st747⟩ := X704.specialBackS hx (y := (⟨"com/example/overweave/overweave/model/Position", "<init>", "(Ljava/lang/String;II)V"⟩ : MethodName)) rfl hown (mvT hZ (hw _ (List.mem_of_getElem? (i := 34) rfl))) (mvT hZ (hw _ (List.mem_of_getElem? (i := 35) rfl))) (mvT hZ (hw _ (List.mem_of_getElem? (i := 36) rfl))) (by decide) (backOfS (W := 1) (rmPos l Z a0 hw [] a710 a603 sL sC h703 n0 Z726 O728 A707 ag717 F729 F730 F731 hsL hsC) hZ (hw _ (List.mem_of_getElem? (i := 36) rfl)) (hw _ (List.mem_of_getElem? (i := 33) rfl)) (by decide) (by decide)) (g := (mkF m 147 #[iv v0, iv v1, iv v2, iv v3, iv v4, iv v5, iv (1 : Int32), iv mL, iv mC, iv sL, iv sC, rv a443, rv a495, rv a551, rv a603, rv a658, .unset, .unset, .unset] [(.int sC), (.int sL), (.ref a603), (.ref a710), (.ref a710)])) rfl (by rw [hml]; rfl) (Steps.refl _) (a := a710) (argsL := [(.ref a603), (.int sL), (.int sC)]) (rest := [(.ref a710)]) (lenOf (by decide +kernel : parseMethodDescriptor "(Ljava/lang/String;II)V" = some ⟨[(.object "java/lang/String"), .int, .int], none⟩) rfl) rfl (by show 2 * 0 + _ ≤ _; exact Nat.le_of_eq rfl) (hb hby at_147) (fun _ _ => ⟨rfl, e705, (by decide : 10 + 2 ≤ _), (by decide : 42 + 20 ≤ _)⟩)
    dsimp only [Pt.U, Pt.locs, Pt.cells, Pt.slots] at X741 l744 y745 z746 st747 hQ743 hS2_ hgr_
    subst l744 y745 z746
    obtain ⟨X748, hS, hZ, hown⟩ := rebS hS (by rw [show T702.heap = h703 from e705]; exact hk727) X741 hS2_ hgr_ hZ hown
    obtain ⟨rfl, N749, O733, K732, g734, g735, g736⟩ := hQ743
    have N751 := Fr.app N694 N749
    have V752 := (V718.keep K732 (ninS ne712 nin0))
    have V753 := (V719.keep K732 (ninS ne713 nin0))
    have E754 := (E720.keep K732)
    have E755 := (E721.keep K732)
    have E756 := (E722.keep K732)
    have F757 := (F723.keep K732 (ninS ne716 nin0))
    have F758 := (F724.keep K732 (ninS ne716 nin0))
    have F759 := (F725.keep K732 (ninS ne716 nin0))
    have E760 := (A707.keep K732)
    have Z761 := Nat.le_trans Z726 K732.1
    have O762 := O728.keep K732 (allS ag717 all0)
    refine own_tr (S' := (T737.setTop (mkF m 150 #[iv v0, iv v1, iv v2, iv v3, iv v4, iv v5, iv (1 : Int32), iv mL, iv mC, iv sL, iv sC, rv a443, rv a495, rv a551, rv a603, rv a658, .unset, .unset, .unset] [(.ref a710)]))) st747 ?_
    refine own_bk (S' := (T737.setTop (mkF m 154 #[iv v0, iv v1, iv v2, iv v3, iv v4, iv v5, iv (1 : Int32), iv mL, iv mC, iv sL, iv sC, rv a443, rv a495, rv a551, rv a603, rv a658, .unset, .unset, .unset] [(.ref a710)]))) (fun t_ kont => XS.goto X748.here hx rfl (pc0 := 150) (pc' := 154) rfl (hb hby at_150) (by decide) (by decide) kont) ?_
    refine own_bk (S' := (T737.setTop (mkF m 156 #[iv v0, iv v1, iv v2, iv v3, iv v4, iv v5, iv (1 : Int32), iv mL, iv mC, iv sL, iv sC, rv a443, rv a495, rv a551, rv a603, rv a658, rv a710, .unset, .unset] []))) (fun t_ kont => XS.astore X748.here hx rfl (hb hby at_154) rfl rfl (l' := #[iv v0, iv v1, iv v2, iv v3, iv v4, iv v5, iv (1 : Int32), iv mL, iv mC, iv sL, iv sC, rv a443, rv a495, rv a551, rv a603, rv a658, rv a710, .unset, .unset]) rfl kont) ?_
    obtain ⟨T763, h764, X765, e766, E767, A768, D769, -, st770⟩ := newO X748 hx hZ hown (hw _ (List.mem_of_getElem? (i := 56) rfl)) (hw _ (List.mem_of_getElem? (i := 57) rfl)) (hw _ (List.mem_of_getElem? (i := 58) rfl)) rfl (g := (mkF m 156 #[iv v0, iv v1, iv v2, iv v3, iv v4, iv v5, iv (1 : Int32), iv mL, iv mC, iv sL, iv sC, rv a443, rv a495, rv a551, rv a603, rv a658, rv a710, .unset, .unset] [])) rfl (hb hby at_156) (by decide) (by decide)
    obtain ⟨a771, g772⟩ : ∃ z, z = T737.heap.size := ⟨_, rfl⟩
    rw [← g772] at A768 D769 st770
    have ne773 : a443 ≠ a771 := Nat.ne_of_lt (Nat.lt_of_lt_of_le V752.lt (Nat.le_of_eq g772.symm))
    have ne774 : a495 ≠ a771 := Nat.ne_of_lt (Nat.lt_of_lt_of_le V753.lt (Nat.le_of_eq g772.symm))
    have ne775 : a551 ≠ a771 := Nat.ne_of_lt (Nat.lt_of_lt_of_le E754.lt (Nat.le_of_eq g772.symm))
    have ne776 : a603 ≠ a771 := Nat.ne_of_lt (Nat.lt_of_lt_of_le E755.lt (Nat.le_of_eq g772.symm))
    have ne777 : a658 ≠ a771 := Nat.ne_of_lt (Nat.lt_of_lt_of_le E756.lt (Nat.le_of_eq g772.symm))
    have ne778 : a710 ≠ a771 := Nat.ne_of_lt (Nat.lt_of_lt_of_le E760.lt (Nat.le_of_eq g772.symm))
    have ag779 : n0 ≤ a771 := Nat.le_trans Z761 (Nat.le_of_eq g772.symm)
    have V780 := (V752.ext E767)
    have V781 := (V753.ext E767)
    have E782 := (E754.ext E767)
    have E783 := (E755.ext E767)
    have E784 := (E756.ext E767)
    have F785 := (F757.ext E767)
    have F786 := (F758.ext E767)
    have F787 := (F759.ext E767)
    have E788 := (E760.ext E767)
    have F789 := (g734.ext E767)
    have F790 := (g735.ext E767)
    have F791 := (g736.ext E767)
    have Z792 := Nat.le_trans Z761 E767.1
    have hk793 := Nat.le_trans (Nat.le_refl _) E767.1
    have O794 := O733.ext E767
    have F795 : Fld Z h764 a771 "com/example/overweave/overweave/merge/SdkLevels$App" "main" "Lcom/example/overweave/overweave/model/Position;" .null := (D769 (Or.inr (hw _ (List.mem_of_getElem? (i := 89) rfl))) (ty := (.object "com/example/overweave/overweave/model/Position")) (by decide +kernel))
    have F796 : Fld Z h764 a771 "com/example/overweave/overweave/merge/SdkLevels$App" "usesSdk" "Lcom/example/overweave/overweave/model/Position;" .null := (D769 (Or.inr (hw _ (List.mem_of_getElem? (i := 91) rfl))) (ty := (.object "com/example/overweave/overweave/model/Position")) (by decide +kernel))
    have F797 : Fld Z h764 a771 "com/example/overweave/overweave/merge/SdkLevels$App" "minAttribute" "Lcom/example/overweave/overweave/model/Attribute;" .null := (D769 (Or.inr (hw _ (List.mem_of_getElem? (i := 93) rfl))) (ty := (.object "com/example/overweave/overweave/model/Attribute")) (by decide +kernel))
    have F798 : Fld Z h764 a771 "com/example/overweave/overweave/merge/SdkLevels$App" "targetAttribute" "Lcom/example/overweave/overweave/model/Attribute;" .null := (D769 (Or.inr (hw _ (List.mem_of_getElem? (i := 95) rfl))) (ty := (.object "com/example/overweave/overweave/model/Attribute")) (by decide +kernel))
    have F799 : Fld Z h764 a771 "com/example/overweave/overweave/merge/SdkLevels$App" "overriding" "Ljava/util/Set;" .null := (D769 (Or.inr (hw _ (List.mem_of_getElem? (i := 97) rfl))) (ty := (.object "java/util/Set")) (by decide +kernel))
    have F800 : Fld Z h764 a771 "com/example/overweave/overweave/merge/SdkLevels$App" "properties" "Ljava/util/Map;" .null := (D769 (Or.inr (hw _ (List.mem_of_getElem? (i := 99) rfl))) (ty := (.object "java/util/Map")) (by decide +kernel))
    refine own_bk (S' := (T763.setTop (mkF m 159 #[iv v0, iv v1, iv v2, iv v3, iv v4, iv v5, iv (1 : Int32), iv mL, iv mC, iv sL, iv sC, rv a443, rv a495, rv a551, rv a603, rv a658, rv a710, .unset, .unset] [(.ref a771)]))) st770 ?_
    refine own_bk (S' := (T763.setTop (mkF m 160 #[iv v0, iv v1, iv v2, iv v3, iv v4, iv v5, iv (1 : Int32), iv mL, iv mC, iv sL, iv sC, rv a443, rv a495, rv a551, rv a603, rv a658, rv a710, .unset, .unset] [(.ref a771), (.ref a771)]))) (fun t_ kont => XS.dup X765.here hx rfl (hb hby at_159) rfl rfl kont) ?_
    refine own_bk (S' := (T763.setTop (mkF m 162 #[iv v0, iv v1, iv v2, iv v3, iv v4, iv v5, iv (1 : Int32), iv mL, iv mC, iv sL, iv sC, rv a443, rv a495, rv a551, rv a603, rv a658, rv a710, .unset, .unset] [(.ref a658), (.ref a771), (.ref a771)]))) (fun t_ kont => XS.aload X765.here hx rfl (hb hby at_160) rfl rfl kont) ?_
    refine own_bk (S' := (T763.setTop (mkF m 164 #[iv v0, iv v1, iv v2, iv v3, iv v4, iv v5, iv (1 : Int32), iv mL, iv mC, iv sL, iv sC, rv a443, rv a495, rv a551, rv a603, rv a658, rv a710, .unset, .unset] [(.ref a710), (.ref a658), (.ref a771), (.ref a771)]))) (fun t_ kont => XS.aload X765.here hx rfl (hb hby at_162) rfl rfl kont) ?_
    refine own_bk (S' := (T763.setTop (mkF m 165 #[iv v0, iv v1, iv v2, iv v3, iv v4, iv v5, iv (1 : Int32), iv mL, iv mC, iv sL, iv sC, rv a443, rv a495, rv a551, rv a603, rv a658, rv a710, .unset, .unset] [.null, (.ref a710), (.ref a658), (.ref a771), (.ref a771)]))) (fun t_ kont => XS.aconstNull X765.here hx rfl (hb hby at_164) kont) ?_
    refine own_bk (S' := (T763.setTop (mkF m 166 #[iv v0, iv v1, iv v2, iv v3, iv v4, iv v5, iv (1 : Int32), iv mL, iv mC, iv sL, iv sC, rv a443, rv a495, rv a551, rv a603, rv a658, rv a710, .unset, .unset] [.null, .null, (.ref a710), (.ref a658), (.ref a771), (.ref a771)]))) (fun t_ kont => XS.aconstNull X765.here hx rfl (hb hby at_165) kont) ?_
    obtain ⟨_, _, ⟨T801, L802, k803, n804⟩, -, X805, ⟨Lc806, hQ807, l808, y809, z810⟩, st811⟩ := Jvm.LawKit.callS X765 hx (y := (⟨"java/util/Set", "of", "()Ljava/util/Set;"⟩ : MethodName)) hown (mvT hZ (hw _ (List.mem_of_getElem? (i := 59) rfl))) (mvT hZ (hw _ (List.mem_of_getElem? (i := 60) rfl))) (mvT hZ (hw _ (List.mem_of_getElem? (i := 61) rfl))) (mvT hZ (hw _ (List.mem_of_getElem? (i := 62) rfl))) (by decide) (backOf (W := 6) (rmSo l Z a0 hw [] xs h764 n0 Z792 (SS.ext O794.2)) hZ (hw _ (List.mem_of_getElem? (i := 62) rfl)) (hw _ (List.mem_of_getElem? (i := 61) rfl)) (by decide) (by decide)) (g := (mkF m 166 #[iv v0, iv v1, iv v2, iv v3, iv v4, iv v5, iv (1 : Int32), iv mL, iv mC, iv sL, iv sC, rv a443, rv a495, rv a551, rv a603, rv a658, rv a710, .unset, .unset] [.null, .null, (.ref a710), (.ref a658), (.ref a771), (.ref a771)])) rfl (by rw [hml]; rfl) (argsL := []) (rest := [.null, .null, (.ref a710), (.ref a658), (.ref a771), (.ref a771)]) (lenOf (by decide +kernel : parseMethodDescriptor "()Ljava/util/Set;" = some ⟨[], some (.object "java/util/Set")⟩) rfl) rfl (by show 2 * 0 + _ ≤ _; exact Nat.le_of_eq rfl) (hb hby at_166) (fun _ _ => ⟨rfl, e766, (by decide : 13 + 0 ≤ _), (by decide : 68 + 0 ≤ _)⟩)
    dsimp only [Pt.U, Pt.locs, Pt.cells, Pt.slots] at X805 l808 y809 z810 st811 hQ807
    subst l808 y809 z810
    obtain ⟨rfl, N812, e813⟩ := hQ807
    have N814 := Fr.app N751 N812
    refine own_bk (S' := (T801.setTop (mkF m 169 #[iv v0, iv v1, iv v2, iv v3, iv v4, iv v5, iv (1 : Int32), iv mL, iv mC, iv sL, iv sC, rv a443, rv a495, rv a551, rv a603, rv a658, rv a710, .unset, .unset] [(.ref xs), .null, .null, (.ref a710), (.ref a658), (.ref a771), (.ref a771)]))) st811 ?_
    obtain ⟨_, _, ⟨T815, L816, k817, n818⟩, -, X819, ⟨Lc820, hQ821, l822, y823, z824⟩, st825⟩ := Jvm.LawKit.callS X805 hx (y := (⟨"java/util/Map", "of", "()Ljava/util/Map;"⟩ : MethodName)) hown (mvT hZ (hw _ (List.mem_of_getElem? (i := 65) rfl))) (mvT hZ (hw _ (List.mem_of_getElem? (i := 66) rfl))) (mvT hZ (hw _ (List.mem_of_getElem? (i := 67) rfl))) (mvT hZ (hw _ (List.mem_of_getElem? (i := 68) rfl))) (by decide) (backOf (W := 7) (rmMo l Z a0 hw [] xm h764 n0 Z792 (SM.ext O794.2)) hZ (hw _ (List.mem_of_getElem? (i := 68) rfl)) (hw _ (List.mem_of_getElem? (i := 67) rfl)) (by decide) (by decide)) (g := (mkF m 169 #[iv v0, iv v1, iv v2, iv v3, iv v4, iv v5, iv (1 : Int32), iv mL, iv mC, iv sL, iv sC, rv a443, rv a495, rv a551, rv a603, rv a658, rv a710, .unset, .unset] [(.ref xs), .null, .null, (.ref a710), (.ref a658), (.ref a771), (.ref a771)])) rfl (by rw [hml]; rfl) (argsL := []) (rest := [(.ref xs), .null, .null, (.ref a710), (.ref a658), (.ref a771), (.ref a771)]) (lenOf (by decide +kernel : parseMethodDescriptor "()Ljava/util/Map;" = some ⟨[], some (.object "java/util/Map")⟩) rfl) rfl (by show 2 * 0 + _ ≤ _; exact Nat.le_of_eq rfl) (hb hby at_169) (fun _ _ => ⟨rfl, e813, (by decide : 13 + 0 ≤ _), (by decide : 68 + 0 ≤ _)⟩)
    dsimp only [Pt.U, Pt.locs, Pt.cells, Pt.slots] at X819 l822 y823 z824 st825 hQ821
    subst l822 y823 z824
    obtain ⟨rfl, N826, e827⟩ := hQ821
    have N828 := Fr.app N814 N826
    refine own_bk (S' := (T815.setTop (mkF m 172 #[iv v0, iv v1, iv v2, iv v3, iv v4, iv v5, iv (1 : Int32), iv mL, iv mC, iv sL, iv sC, rv a443, rv a495, rv a551, rv a603, rv a658, rv a710, .unset, .unset] [(.ref xm), (.ref xs), .null, .null, (.ref a710), (.ref a658), (.ref a771), (.ref a771)]))) st825 ?_
    obtain ⟨_, _, ⟨T833, L834, k835, n836⟩, -, X837, hS2_, hgr_, ⟨Lc838, hQ839, l840, y841, z842⟩, st843⟩ := X819.specialBackS hx (y := (⟨"com/example/overweave/overweave/merge/SdkLevels$App", "<init>", "(Lcom/example/overweave/overweave/model/Position;Lcom/example/overweave/overweave/model/Position;Lcom/example/overweave/overweave/model/Attribute;Lcom/example/overweave/overweave/model/Attribute;Ljava/util/Set;Ljava/util/Map;)V"⟩ : MethodName)) rfl hown (mvT hZ (hw _ (List.mem_of_getElem? (i := 70) rfl))) (mvT hZ (hw _ (List.mem_of_getElem? (i := 71) rfl))) (mvT hZ (hw _ (List.mem_of_getElem? (i := 72) rfl))) (by decide) (backOfS (W := 1) (rmAppR l Z a0 hw [] a771 a658 a710 xs xm h764 n0 Z792 O794 ES EM A768 ag779 F795 F796 F797 F798 F799 F800) hZ (hw _ (List.mem_of_getElem? (i := 72) rfl)) (hw _ (List.mem_of_getElem? (i := 58) rfl)) (by decide) (by decide)) (g := (mkF m 172 #[iv v0, iv v1, iv v2, iv v3, iv v4, iv v5, iv (1 : Int32), iv mL, iv mC, iv sL, iv sC, rv a443, rv a495, rv a551, rv a603, rv a658, rv a710, .unset, .unset] [(.ref xm), (.ref xs), .null, .null, (.ref a710), (.ref a658), (.ref a771), (.ref a771)])) rfl (by rw [hml]; rfl) (Steps.refl _) (a := a771) (argsL := [(.ref a658), (.ref a710), .null, .null, (.ref xs), (.ref xm)]) (rest := [(.ref a771)]) (lenOf (by decide +kernel : parseMethodDescriptor "(Lcom/example/overweave/overweave/model/Position;Lcom/example/overweave/overweave/model/Position;Lcom/example/overweave/overweave/model/Attribute;Lcom/example/overweave/overweave/model/Attribute;Ljava/util/Set;Ljava/util/Map;)V" = some ⟨[(.object "com/example/overweave/overweave/model/Position"), (.object "com/example/overweave/overweave/model/Position"), (.object "com/example/overweave/overweave/model/Attribute"), (.object "com/example/overweave/overweave/model/Attribute"), (.object "java/util/Set"), (.object "java/util/Map")], none⟩) rfl) rfl (by show 2 * 0 + _ ≤ _; exact Nat.le_of_eq rfl) (hb hby at_172) (fun _ _ => ⟨rfl, e827, (by decide : 13 + 2 ≤ _), (by decide : 68 + 20 ≤ _)⟩)
    dsimp only [Pt.U, Pt.locs, Pt.cells, Pt.slots] at X837 l840 y841 z842 st843 hQ839 hS2_ hgr_
    subst l840 y841 z842
    obtain ⟨X844, hS, hZ, hown⟩ := rebS hS (by rw [show T815.heap = h764 from e827]; exact hk793) X837 hS2_ hgr_ hZ hown
    obtain ⟨rfl, N845, O830, K829, g831, g832⟩ := hQ839
    have N847 := Fr.app N828 N845
    have V848 := (V780.keep K829 (ninS ne773 nin0))
    have V849 := (V781.keep K829 (ninS ne774 nin0))
    have E850 := (E782.keep K829)
    have E851 := (E783.keep K829)
    have E852 := (E784.keep K829)
    have F853 := (F785.keep K829 (ninS ne777 nin0))
    have F854 := (F786.keep K829 (ninS ne777 nin0))
    have F855 := (F787.keep K829 (ninS ne777 nin0))
    have E856 := (E788.keep K829)
    have F857 := (F789.keep K829 (ninS ne778 nin0))
    have F858 := (F790.keep K829 (ninS ne778 nin0))
    have F859 := (F791.keep K829 (ninS ne778 nin0))
    have E860 := (A768.keep K829)
    have Z861 := Nat.le_trans Z792 K829.1
    have O862 := O794.keep K829 (allS ag779 all0)
    refine own_tr (S' := (T833.setTop (mkF m 175 #[iv v0, iv v1, iv v2, iv v3, iv v4, iv v5, iv (1 : Int32), iv mL, iv mC, iv sL, iv sC, rv a443, rv a495, rv a551, rv a603, rv a658, rv a710, .unset, .unset] [(.ref a771)]))) st843 ?_
    refine own_bk (S' := (T833.setTop (mkF m 177 #[iv v0, iv v1, iv v2, iv v3, iv v4, iv v5, iv (1 : Int32), iv mL, iv mC, iv sL, iv sC, rv a443, rv a495, rv a551, rv a603, rv a658, rv a710, rv a771, .unset] []))) (fun t_ kont => XS.astore X844.here hx rfl (hb hby at_175) rfl rfl (l' := #[iv v0, iv v1, iv v2, iv v3, iv v4, iv v5, iv (1 : Int32), iv mL, iv mC, iv sL, iv sC, rv a443, rv a495, rv a551, rv a603, rv a658, rv a710, rv a771, .unset]) rfl kont) ?_
    refine own_bk (S' := (T833.setTop (mkF m 179 #[iv v0, iv v1, iv v2, iv v3, iv v4, iv v5, iv (1 : Int32), iv mL, iv mC, iv sL, iv sC, rv a443, rv a495, rv a551, rv a603, rv a658, rv a710, rv a771, .unset] [(.ref a771)]))) (fun t_ kont => XS.aload X844.here hx rfl (hb hby at_177) rfl rfl kont) ?_
    obtain ⟨cqq874, kqq874, q874a, q874b, q874c⟩ := isOf hZ rfl E860
    obtain ⟨_, _, ⟨T863, L864, k865, n866⟩, -, X867, ⟨Lc868, hQ869, l870, y871, z872⟩, st873⟩ := X844.virtualBack hx (y := (⟨"com/example/overweave/overweave/merge/SdkLevels$App", "levelsPosition", "()Lcom/example/overweave/overweave/model/Position;"⟩ : MethodName)) (z := (⟨"com/example/overweave/overweave/merge/SdkLevels$App", "levelsPosition", "()Lcom/example/overweave/overweave/model/Position;"⟩ : MethodName)) hown (mvT hZ (hw _ (List.mem_of_getElem? (i := 100) rfl))) (mvT hZ (hw _ (List.mem_of_getElem? (i := 101) rfl))) (notFace_of_selects (args := #[]) (mvT hZ (hw _ (List.mem_of_getElem? (i := 103) rfl)))) (mvT hZ (hw _ (List.mem_of_getElem? (i := 103) rfl))) (mvT hZ (hw _ (List.mem_of_getElem? (i := 102) rfl))) (by decide) (backOf (W := 0) (rmLevR l Z a0 hw [] a771 a658 a710 T833.heap n0 Z861 g831 g832) hZ (hw _ (List.mem_of_getElem? (i := 104) rfl)) (hw _ (List.mem_of_getElem? (i := 58) rfl)) (by decide) (by decide)) q874a q874c (g := (mkF m 179 #[iv v0, iv v1, iv v2, iv v3, iv v4, iv v5, iv (1 : Int32), iv mL, iv mC, iv sL, iv sC, rv a443, rv a495, rv a551, rv a603, rv a658, rv a710, rv a771, .unset] [(.ref a771)])) rfl (by rw [hml]; rfl) (Steps.refl _) (argsL := []) (rest := []) (lenOf (by decide +kernel : parseMethodDescriptor "()Lcom/example/overweave/overweave/model/Position;" = some ⟨[], some (.object "com/example/overweave/overweave/model/Position")⟩) rfl) rfl (by show 2 * 0 + _ ≤ _; exact Nat.le_of_eq rfl) (hb hby at_179) (fun _ _ => ⟨rfl, rfl, (by decide : 15 + 0 ≤ _), (by decide : 88 + 0 ≤ _)⟩)
    dsimp only [Pt.U, Pt.locs, Pt.cells, Pt.slots] at X867 l870 y871 z872 st873 hQ869
    subst l870 y871 z872
    obtain ⟨rfl, N875, e876⟩ := hQ869
    have N877 := Fr.app N847 N875
    refine own_tr (S' := (T863.setTop (mkF m 182 #[iv v0, iv v1, iv v2, iv v3, iv v4, iv v5, iv (1 : Int32), iv mL, iv mC, iv sL, iv sC, rv a443, rv a495, rv a551, rv a603, rv a658, rv a710, rv a771, .unset] [(.ref a710)]))) st873 ?_
    refine own_bk (S' := (T863.setTop (mkF m 184 #[iv v0, iv v1, iv v2, iv v3, iv v4, iv v5, iv (1 : Int32), iv mL, iv mC, iv sL, iv sC, rv a443, rv a495, rv a551, rv a603, rv a658, rv a710, rv a771, rv a710] []))) (fun t_ kont => XS.astore X867.here hx rfl (hb hby at_182) rfl rfl (l' := #[iv v0, iv v1, iv v2, iv v3, iv v4, iv v5, iv (1 : Int32), iv mL, iv mC, iv sL, iv sC, rv a443, rv a495, rv a551, rv a603, rv a658, rv a710, rv a771, rv a710]) rfl kont) ?_
    refine own_bk (S' := (T863.setTop (mkF m 186 #[iv v0, iv v1, iv v2, iv v3, iv v4, iv v5, iv (1 : Int32), iv mL, iv mC, iv sL, iv sC, rv a443, rv a495, rv a551, rv a603, rv a658, rv a710, rv a771, rv a710] [(.ref a710)]))) (fun t_ kont => XS.aload X867.here hx rfl (hb hby at_184) rfl rfl kont) ?_
    refine own_bk (S' := (T863.setTop (mkF m 191 #[iv v0, iv v1, iv v2, iv v3, iv v4, iv v5, iv (1 : Int32), iv mL, iv mC, iv sL, iv sC, rv a443, rv a495, rv a551, rv a603, rv a658, rv a710, rv a771, rv a710] []))) (fun t_ kont => XS.ifnonnullYes X867.here hx rfl (pc0 := 186) (pc' := 191) rfl (hb hby at_186) rfl (by decide) (by decide) kont) ?_
    refine own_bk (S' := (T863.setTop (mkF m 193 #[iv v0, iv v1, iv v2, iv v3, iv v4, iv v5, iv (1 : Int32), iv mL, iv mC, iv sL, iv sC, rv a443, rv a495, rv a551, rv a603, rv a658, rv a710, rv a771, rv a710] [(.int (1 : Int32))]))) (fun t_ kont => XS.iload X867.here hx rfl (hb hby at_191) rfl kont) ?_
    refine own_bk (S' := (T863.setTop (mkF m 196 #[iv v0, iv v1, iv v2, iv v3, iv v4, iv v5, iv (1 : Int32), iv mL, iv mC, iv sL, iv sC, rv a443, rv a495, rv a551, rv a603, rv a658, rv a710, rv a771, rv a710] []))) (fun t_ kont => XS.ifNo X867.here hx rfl (hb hby at_193) rfl ((if0 _ _).trans (feq (by decide : ¬ ((1 : Int32)) = ((0 : Int32)))).1) kont) ?_
    refine own_bk (S' := (T863.setTop (mkF m 198 #[iv v0, iv v1, iv v2, iv v3, iv v4, iv v5, iv (1 : Int32), iv mL, iv mC, iv sL, iv sC, rv a443, rv a495, rv a551, rv a603, rv a658, rv a710, rv a771, rv a710] [(.ref a710)]))) (fun t_ kont => XS.aload X867.here hx rfl (hb hby at_196) rfl rfl kont) ?_
    refine own_bk (S' := (T863.setTop (mkF m 200 #[iv v0, iv v1, iv v2, iv v3, iv v4, iv v5, iv (1 : Int32), iv mL, iv mC, iv sL, iv sC, rv a443, rv a495, rv a551, rv a603, rv a658, rv a710, rv a771, rv a710] [(.ref a710), (.ref a710)]))) (fun t_ kont => XS.aload X867.here hx rfl (hb hby at_198) rfl rfl kont) ?_
    refine own_bk (S' := (T863.setTop (mkF m 203 #[iv v0, iv v1, iv v2, iv v3, iv v4, iv v5, iv (1 : Int32), iv mL, iv mC, iv sL, iv sC, rv a443, rv a495, rv a551, rv a603, rv a658, rv a710, rv a771, rv a710] []))) (fun t_ kont => Jvm.RoadKit.acmp (g := (mkF m 200 #[iv v0, iv v1, iv v2, iv v3, iv v4, iv v5, iv (1 : Int32), iv mL, iv mC, iv sL, iv sC, rv a443, rv a495, rv a551, rv a603, rv a658, rv a710, rv a771, rv a710] [(.ref a710), (.ref a710)])) X867 hx rfl rfl rfl (pc0 := 200) (pc' := 203) (same := true) rfl (hb hby at_200) rfl (decide_eq_true rfl) (by decide) (by decide) kont) ?_
    refine own_bk (S' := (T863.setTop (mkF m 205 #[iv v0, iv v1, iv v2, iv v3, iv v4, iv v5, iv (1 : Int32), iv mL, iv mC, iv sL, iv sC, rv a443, rv a495, rv a551, rv a603, rv a658, rv a710, rv a771, rv a710] [(.ref a710)]))) (fun t_ kont => XS.aload X867.here hx rfl (hb hby at_203) rfl rfl kont) ?_
    obtain ⟨cqq889, kqq889, q889a, q889b, q889c⟩ := isOf hZ e876 E856
    obtain ⟨_, _, ⟨T878, L879, k880, n881⟩, -, X882, ⟨Lc883, hQ884, l885, y886, z887⟩, st888⟩ := X867.virtualBack hx (y := (⟨"com/example/overweave/overweave/model/Position", "file", "()Ljava/lang/String;"⟩ : MethodName)) (z := (⟨"com/example/overweave/overweave/model/Position", "file", "()Ljava/lang/String;"⟩ : MethodName)) hown (mvT hZ (hw _ (List.mem_of_getElem? (i := 105) rfl))) (mvT hZ (hw _ (List.mem_of_getElem? (i := 106) rfl))) (notFace_of_selects (args := #[]) (mvT hZ (hw _ (List.mem_of_getElem? (i := 108) rfl)))) (mvT hZ (hw _ (List.mem_of_getElem? (i := 108) rfl))) (mvT hZ (hw _ (List.mem_of_getElem? (i := 107) rfl))) (by decide) (backOf (W := 0) (rmg_file l Z a0 hw [] a710 a603 T833.heap n0 Z861 F857) hZ (hw _ (List.mem_of_getElem? (i := 109) rfl)) (hw _ (List.mem_of_getElem? (i := 33) rfl)) (by decide) (by decide)) q889a q889c (g := (mkF m 205 #[iv v0, iv v1, iv v2, iv v3, iv v4, iv v5, iv (1 : Int32), iv mL, iv mC, iv sL, iv sC, rv a443, rv a495, rv a551, rv a603, rv a658, rv a710, rv a771, rv a710] [(.ref a710)])) rfl (by rw [hml]; rfl) (Steps.refl _) (argsL := []) (rest := []) (lenOf (by decide +kernel : parseMethodDescriptor "()Ljava/lang/String;" = some ⟨[], some (.object "java/lang/String")⟩) rfl) rfl (by show 2 * 0 + _ ≤ _; exact Nat.le_of_eq rfl) (hb hby at_205) (fun _ _ => ⟨rfl, e876, (by decide : 15 + 0 ≤ _), (by decide : 88 + 0 ≤ _)⟩)
    dsimp only [Pt.U, Pt.locs, Pt.cells, Pt.slots] at X882 l885 y886 z887 st888 hQ884
    subst l885 y886 z887
    obtain ⟨rfl, N890, e891⟩ := hQ884
    have N892 := Fr.app N877 N890
    refine own_tr (S' := (T878.setTop (mkF m 208 #[iv v0, iv v1, iv v2, iv v3, iv v4, iv v5, iv (1 : Int32), iv mL, iv mC, iv sL, iv sC, rv a443, rv a495, rv a551, rv a603, rv a658, rv a710, rv a771, rv a710] [(.ref a603)]))) st888 ?_
    refine own_bk (S' := (T878.setTop (mkF m 210 #[iv v0, iv v1, iv v2, iv v3, iv v4, iv v5, iv (1 : Int32), iv mL, iv mC, iv sL, iv sC, rv a443, rv a495, rv a551, rv a603, rv a658, rv a710, rv a771, rv a710] [(.ref a603), (.ref a603)]))) (fun t_ kont => XS.aload X882.here hx rfl (hb hby at_208) rfl rfl kont) ?_
    obtain ⟨cqq904, kqq904, q904a, q904b, q904c⟩ := isOf hZ e891 E851
    obtain ⟨_, _, ⟨T893, L894, k895, n896⟩, -, X897, ⟨Lc898, hQ899, l900, y901, z902⟩, st903⟩ := X882.virtualBack hx (y := (⟨"java/lang/String", "equals", "(Ljava/lang/Object;)Z"⟩ : MethodName)) (z := (⟨"java/lang/String", "equals", "(Ljava/lang/Object;)Z"⟩ : MethodName)) hown (mvT hZ (hw _ (List.mem_of_getElem? (i := 110) rfl))) (mvT hZ (hw _ (List.mem_of_getElem? (i := 111) rfl))) (notFace_of_selects (args := #[]) (mvT hZ (hw _ (List.mem_of_getElem? (i := 113) rfl)))) (mvT hZ (hw _ (List.mem_of_getElem? (i := 113) rfl))) (mvT hZ (hw _ (List.mem_of_getElem? (i := 112) rfl))) (by decide) (backOf (W := 0) (rmEq l Z a0 hw [] a603 T833.heap n0 Z861) hZ (hw _ (List.mem_of_getElem? (i := 114) rfl)) (hw _ (List.mem_of_getElem? (i := 4) rfl)) (by decide) (by decide)) q904a q904c (g := (mkF m 210 #[iv v0, iv v1, iv v2, iv v3, iv v4, iv v5, iv (1 : Int32), iv mL, iv mC, iv sL, iv sC, rv a443, rv a495, rv a551, rv a603, rv a658, rv a710, rv a771, rv a710] [(.ref a603), (.ref a603)])) rfl (by rw [hml]; rfl) (Steps.refl _) (argsL := [(.ref a603)]) (rest := []) (lenOf (by decide +kernel : parseMethodDescriptor "(Ljava/lang/Object;)Z" = some ⟨[(.object "java/lang/Object")], some .boolean⟩) rfl) rfl (by show 2 * 0 + _ ≤ _; exact Nat.le_of_eq rfl) (hb hby at_210) (fun _ _ => ⟨rfl, e891, (by decide : 15 + 0 ≤ _), (by decide : 88 + 0 ≤ _)⟩)
    dsimp only [Pt.U, Pt.locs, Pt.cells, Pt.slots] at X897 l900 y901 z902 st903 hQ899
    subst l900 y901 z902
    obtain ⟨rfl, N905, e906⟩ := hQ899
    have N907 := Fr.app N892 N905
    refine own_tr (S' := (T893.setTop (mkF m 213 #[iv v0, iv v1, iv v2, iv v3, iv v4, iv v5, iv (1 : Int32), iv mL, iv mC, iv sL, iv sC, rv a443, rv a495, rv a551, rv a603, rv a658, rv a710, rv a771, rv a710] [(.int (1 : Int32))]))) st903 ?_
    refine own_bk (S' := (T893.setTop (mkF m 216 #[iv v0, iv v1, iv v2, iv v3, iv v4, iv v5, iv (1 : Int32), iv mL, iv mC, iv sL, iv sC, rv a443, rv a495, rv a551, rv a603, rv a658, rv a710, rv a771, rv a710] []))) (fun t_ kont => XS.ifNo X897.here hx rfl (hb hby at_213) rfl ((if0 _ _).trans (feq (by decide : ¬ ((1 : Int32)) = ((0 : Int32)))).1) kont) ?_
    refine own_bk (S' := (T893.setTop (mkF m 218 #[iv v0, iv v1, iv v2, iv v3, iv v4, iv v5, iv (1 : Int32), iv mL, iv mC, iv sL, iv sC, rv a443, rv a495, rv a551, rv a603, rv a658, rv a710, rv a771, rv a710] [(.ref a710)]))) (fun t_ kont => XS.aload X897.here hx rfl (hb hby at_216) rfl rfl kont) ?_
    obtain ⟨cqq919, kqq919, q919a, q919b, q919c⟩ := isOf hZ e906 E856
    obtain ⟨_, _, ⟨T908, L909, k910, n911⟩, -, X912, ⟨Lc913, hQ914, l915, y916, z917⟩, st918⟩ := X897.virtualBack hx (y := (⟨"com/example/overweave/overweave/model/Position", "line", "()I"⟩ : MethodName)) (z := (⟨"com/example/overweave/overweave/model/Position", "line", "()I"⟩ : MethodName)) hown (mvT hZ (hw _ (List.mem_of_getElem? (i := 115) rfl))) (mvT hZ (hw _ (List.mem_of_getElem? (i := 116) rfl))) (notFace_of_selects (args := #[]) (mvT hZ (hw _ (List.mem_of_getElem? (i := 118) rfl)))) (mvT hZ (hw _ (List.mem_of_getElem? (i := 118) rfl))) (mvT hZ (hw _ (List.mem_of_getElem? (i := 117) rfl))) (by decide) (backOf (W := 0) (rmg_line l Z a0 hw [] a710 sL T833.heap n0 Z861 F858) hZ (hw _ (List.mem_of_getElem? (i := 119) rfl)) (hw _ (List.mem_of_getElem? (i := 33) rfl)) (by decide) (by decide)) q919a q919c (g := (mkF m 218 #[iv v0, iv v1, iv v2, iv v3, iv v4, iv v5, iv (1 : Int32), iv mL, iv mC, iv sL, iv sC, rv a443, rv a495, rv a551, rv a603, rv a658, rv a710, rv a771, rv a710] [(.ref a710)])) rfl (by rw [hml]; rfl) (Steps.refl _) (argsL := []) (rest := []) (lenOf (by decide +kernel : parseMethodDescriptor "()I" = some ⟨[], some .int⟩) rfl) rfl (by show 2 * 0 + _ ≤ _; exact Nat.le_of_eq rfl) (hb hby at_218) (fun _ _ => ⟨rfl, e906, (by decide : 15 + 0 ≤ _), (by decide : 88 + 0 ≤ _)⟩)
    dsimp only [Pt.U, Pt.locs, Pt.cells, Pt.slots] at X912 l915 y916 z917 st918 hQ914
    subst l915 y916 z917
    obtain ⟨rfl, N920, e921⟩ := hQ914
    have N922 := Fr.app N907 N920
    refine own_tr (S' := (T908.setTop (mkF m 221 #[iv v0, iv v1, iv v2, iv v3, iv v4, iv v5, iv (1 : Int32), iv mL, iv mC, iv sL, iv sC, rv a443, rv a495, rv a551, rv a603, rv a658, rv a710, rv a771, rv a710] [(.int sL)]))) st918 ?_
    refine own_bk (S' := (T908.setTop (mkF m 223 #[iv v0, iv v1, iv v2, iv v3, iv v4, iv v5, iv (1 : Int32), iv mL, iv mC, iv sL, iv sC, rv a443, rv a495, rv a551, rv a603, rv a658, rv a710, rv a771, rv a710] [(.int sL), (.int sL)]))) (fun t_ kont => XS.iload X912.here hx rfl (hb hby at_221) rfl kont) ?_
    refine own_bk (S' := (T908.setTop (mkF m 226 #[iv v0, iv v1, iv v2, iv v3, iv v4, iv v5, iv (1 : Int32), iv mL, iv mC, iv sL, iv sC, rv a443, rv a495, rv a551, rv a603, rv a658, rv a710, rv a771, rv a710] []))) (fun t_ kont => XS.icmpNo X912.here hx rfl (hb hby at_223) rfl (teq (rfl : (sL) = (sL))).2 kont) ?_
    refine own_bk (S' := (T908.setTop (mkF m 228 #[iv v0, iv v1, iv v2, iv v3, iv v4, iv v5, iv (1 : Int32), iv mL, iv mC, iv sL, iv sC, rv a443, rv a495, rv a551, rv a603, rv a658, rv a710, rv a771, rv a710] [(.ref a710)]))) (fun t_ kont => XS.aload X912.here hx rfl (hb hby at_226) rfl rfl kont) ?_
    obtain ⟨cqq934, kqq934, q934a, q934b, q934c⟩ := isOf hZ e921 E856
    obtain ⟨_, _, ⟨T923, L924, k925, n926⟩, -, X927, ⟨Lc928, hQ929, l930, y931, z932⟩, st933⟩ := X912.virtualBack hx (y := (⟨"com/example/overweave/overweave/model/Position", "column", "()I"⟩ : MethodName)) (z := (⟨"com/example/overweave/overweave/model/Position", "column", "()I"⟩ : MethodName)) hown (mvT hZ (hw _ (List.mem_of_getElem? (i := 120) rfl))) (mvT hZ (hw _ (List.mem_of_getElem? (i := 121) rfl))) (notFace_of_selects (args := #[]) (mvT hZ (hw _ (List.mem_of_getElem? (i := 123) rfl)))) (mvT hZ (hw _ (List.mem_of_getElem? (i := 123) rfl))) (mvT hZ (hw _ (List.mem_of_getElem? (i := 122) rfl))) (by decide) (backOf (W := 0) (rmg_column l Z a0 hw [] a710 sC T833.heap n0 Z861 F859) hZ (hw _ (List.mem_of_getElem? (i := 124) rfl)) (hw _ (List.mem_of_getElem? (i := 33) rfl)) (by decide) (by decide)) q934a q934c (g := (mkF m 228 #[iv v0, iv v1, iv v2, iv v3, iv v4, iv v5, iv (1 : Int32), iv mL, iv mC, iv sL, iv sC, rv a443, rv a495, rv a551, rv a603, rv a658, rv a710, rv a771, rv a710] [(.ref a710)])) rfl (by rw [hml]; rfl) (Steps.refl _) (argsL := []) (rest := []) (lenOf (by decide +kernel : parseMethodDescriptor "()I" = some ⟨[], some .int⟩) rfl) rfl (by show 2 * 0 + _ ≤ _; exact Nat.le_of_eq rfl) (hb hby at_228) (fun _ _ => ⟨rfl, e921, (by decide : 15 + 0 ≤ _), (by decide : 88 + 0 ≤ _)⟩)
    dsimp only [Pt.U, Pt.locs, Pt.cells, Pt.slots] at X927 l930 y931 z932 st933 hQ929
    subst l930 y931 z932
    obtain ⟨rfl, N935, e936⟩ := hQ929
    have N937 := Fr.app N922 N935
    refine own_tr (S' := (T923.setTop (mkF m 231 #[iv v0, iv v1, iv v2, iv v3, iv v4, iv v5, iv (1 : Int32), iv mL, iv mC, iv sL, iv sC, rv a443, rv a495, rv a551, rv a603, rv a658, rv a710, rv a771, rv a710] [(.int sC)]))) st933 ?_
    refine own_bk (S' := (T923.setTop (mkF m 233 #[iv v0, iv v1, iv v2, iv v3, iv v4, iv v5, iv (1 : Int32), iv mL, iv mC, iv sL, iv sC, rv a443, rv a495, rv a551, rv a603, rv a658, rv a710, rv a771, rv a710] [(.int sC), (.int sC)]))) (fun t_ kont => XS.iload X927.here hx rfl (hb hby at_231) rfl kont) ?_
    refine own_bk (S' := (T923.setTop (mkF m 236 #[iv v0, iv v1, iv v2, iv v3, iv v4, iv v5, iv (1 : Int32), iv mL, iv mC, iv sL, iv sC, rv a443, rv a495, rv a551, rv a603, rv a658, rv a710, rv a771, rv a710] []))) (fun t_ kont => XS.icmpNo X927.here hx rfl (hb hby at_233) rfl (teq (rfl : (sC) = (sC))).2 kont) ?_
    refine own_bk (S' := (T923.setTop (mkF m 237 #[iv v0, iv v1, iv v2, iv v3, iv v4, iv v5, iv (1 : Int32), iv mL, iv mC, iv sL, iv sC, rv a443, rv a495, rv a551, rv a603, rv a658, rv a710, rv a771, rv a710] [(.int (1 : Int32))]))) (fun t_ kont => XS.iconst X927.here hx rfl (hb hby at_236) kont) ?_
    refine own_bk (S' := (T923.setTop (mkF m 241 #[iv v0, iv v1, iv v2, iv v3, iv v4, iv v5, iv (1 : Int32), iv mL, iv mC, iv sL, iv sC, rv a443, rv a495, rv a551, rv a603, rv a658, rv a710, rv a771, rv a710] [(.int (1 : Int32))]))) (fun t_ kont => XS.goto X927.here hx rfl (pc0 := 237) (pc' := 241) rfl (hb hby at_237) (by decide) (by decide) kont) ?_
    exact own_retNW hS X927 (by rw [show T923.heap = T833.heap from e936]; exact (Nat.le_refl _)) hx hlk (t := .boolean) (w := (1 : Int32)) Bd.returns (by simp) (hb hby at_241) rfl ⟨rfl, N937⟩ (by decide) (by decide)
set_option maxRecDepth 65536 in
set_option maxHeartbeats 40000000 in
theorem comes_1 {Post : Tables → Env → Array Value → State → Outcome → State → Prop} (hpost : ∀ tb e args s v u, (limb_1_1.after args s (.returned v) u = true ∧ limb_1_2.after args s (.returned v) u = true ∧ True) → ReturnedEndW s (.returned v) u (Jvm.fieldLocs frame_1_writes args s ++ Jvm.arrayLocs frame_1_arrays args s ++ Jvm.staticLocs frame_1_statics s) 32 2176 → Post tb e args s (.returned v) u) :
    ArmFor flags0 classFile x code maxLocals ret World_1 tables_1 room_1 Calls_1 rest_1 Pre_1 Post := by
  intro l hfl _ _ p e ha hc hk s m args below hf hA hF happ hP
  obtain ⟨hcalls, hrest, hpre⟩ := hP
  obtain ⟨-, -, -, hnamed, -, -, -, hat⟩ := (Spec.applies_iff hf).mp happ
  obtain ⟨hg, hn⟩ := and_e (Cond.before_iff.mp (show (Jvm.Cond.and given_1 narrow_1).before args s = true from hpre))
  obtain ⟨g0, hg⟩ := and_e hg
  obtain ⟨g1, hg⟩ := and_e hg
  obtain ⟨g2, hg⟩ := and_e hg
  obtain ⟨g3, hg⟩ := and_e hg
  obtain ⟨g4, hg⟩ := and_e hg
  obtain ⟨g5, hg⟩ := and_e hg
  have g6 := hg
  obtain ⟨w0, w1, w2, w3, w4, w5, rfl⟩ : ∃ w0 w1 w2 w3 w4 w5 : Value, args = #[w0, w1, w2, w3, w4, w5] := by
    have hs : args.size = 6 := by simpa [Cond.value, given_1] using g0
    obtain ⟨L⟩ := args
    match L, hs with
    | [w0, w1, w2, w3, w4, w5], _ => exact ⟨w0, w1, w2, w3, w4, w5, rfl⟩
  have hw := fun d (hd : d ∈ tables_1) => atoms_spec (ws := Jvm.Cond.code x code maxLocals ret :: tables_1) hat d (List.mem_cons_of_mem _ hd)
  obtain ⟨hsets, hown0⟩ := atoms_of _ (rest_1_c_eq ▸ (show rest_1_c.before _ s = true from hrest))
  have hfit : Fit s := fun {y c} hc i hi => by
    obtain ⟨ha, rfl⟩ := Array.getElem?_eq_some_iff.mp hc
    have q := List.all_eq_true.mp ((Array.all_eq_true_iff_forall_mem.mp hF) _ (Array.getElem_mem ha)) i (List.mem_range.mpr hi)
    simpa [Array.getElem?_eq_getElem hi] using q
  obtain ⟨v0, ev0⟩ := is_v g1
  obtain rfl : w0 = (.int v0) := Option.some.inj ev0
  obtain ⟨v1, ev1⟩ := is_v g2
  obtain rfl : w1 = (.int v1) := Option.some.inj ev1
  obtain ⟨v2, ev2⟩ := is_v g3
  obtain rfl : w2 = (.int v2) := Option.some.inj ev2
  obtain ⟨v3, ev3⟩ := is_v g4
  obtain rfl : w3 = (.int v3) := Option.some.inj ev3
  obtain ⟨v4, ev4⟩ := is_v g5
  obtain rfl : w4 = (.int v4) := Option.some.inj ev4
  obtain ⟨v5, ev5⟩ := is_v g6
  obtain rfl : w5 = (.int v5) := Option.some.inj ev5
  have n5 := not_v (Cond.before_iff.mp (hsets _ (List.mem_of_getElem? (i := 2) rfl)))
  obtain ⟨cz, ecz⟩ := is_v (Cond.before_iff.mp (hsets _ (List.mem_of_getElem? (i := 1) rfl)))
  have SC : Sta s s.heap "java/lang/String" "COMPACT_STRINGS" "Z" (.int cz) := Sta.start ecz (Or.inl (hsets _ (List.mem_of_getElem? (i := 0) rfl)))
  have hcz : ¬ (cz = (0 : Int32)) := gotF (Cond.eq_ints ecz (Term.int_eval (0))) n5
  have cxs := Cond.before_iff.mp (hsets _ (List.mem_of_getElem? (i := 11) rfl))
  obtain ⟨xs, evxs⟩ := exa_v cxs
  have SS : Sta s s.heap "java/util/ImmutableCollections" "EMPTY_SET" "Ljava/util/ImmutableCollections$SetN;" (.ref xs) := Sta.start evxs (Or.inl (hsets _ (List.mem_of_getElem? (i := 10) rfl)))
  have ES : Exa s s.heap xs "java/util/ImmutableCollections$SetN" := Exa.start evxs cxs
  have cxm := Cond.before_iff.mp (hsets _ (List.mem_of_getElem? (i := 18) rfl))
  obtain ⟨xm, evxm⟩ := exa_v cxm
  have SM : Sta s s.heap "java/util/ImmutableCollections" "EMPTY_MAP" "Ljava/util/ImmutableCollections$MapN;" (.ref xm) := Sta.start evxm (Or.inl (hsets _ (List.mem_of_getElem? (i := 17) rfl)))
  have EM : Exa s s.heap xm "java/util/ImmutableCollections$MapN" := Exa.start evxm cxm
  obtain ⟨n, o, h1, h2, h3, _, L, rfl, ⟨rfl, N⟩, hq⟩ := rm0 l s _ hw tables_1 v0 v1 v2 v3 v4 v5 cz xs xm s.heap s.heap.size (Nat.le_refl _) (Old.start s) SC hcz SS SM ES EM p e ha hc hk s m _ below hf ((Spec.applies_iff_loose hf).mp happ).1 ⟨rfl, State.Warmed39.refl s, rfl⟩ trivial
  refine ⟨n, _, h1, h2, h3, hpost _ _ _ _ _ _ ⟨Cond.after_iff.mpr rfl, Cond.after_iff.mpr (eq_i res_at (Term.int_eval (1)) rfl), trivial⟩ ⟨hq.1, hq.2.1, hq.2.2.1, (hq.2.2.2.sift fun y hy => Or.inr (N y hy)).mono (by decide) (by decide)⟩⟩
theorem main_1_1 : Claimed_1_1 := comes_1 fun _ _ _ _ _ _ h hF => ⟨h.1, hF⟩
theorem main_1_2 : Claimed_1_2 := comes_1 fun _ _ _ _ _ _ h hF => ⟨h.2.1, hF⟩
end Jvm.Pilot.@@N@@
namespace Jvm.Pilot.@@N@@
open Jvm Jvm.ClassFile Sem Op Lib Jvm.Free Jvm.Stand Jvm.Pilot.@@N@@.Jvm.D
/-! MADE BY PROGRAM (witnessworld.py) out of the Statement's table words and the real class files: 36 classes; the members and pool entries that the words name. The judged class is class 1, her method 1. -/
namespace start1
open Jvm.ClassFile
def u (s : String) : CpInfo := .utf8 (stringToUtf16 s)
/-- a pool by its gaps: so many unusable entries, then the entry; so many at the end -/
def gap : Nat → List CpInfo → List CpInfo
  | 0, r => r
  | n + 1, r => .unusable :: gap n r
def poolList (es : List (Nat × CpInfo)) (last : Nat) : List CpInfo := es.foldr (fun e r => gap e.1 (e.2 :: r)) (gap last [])
def pool (es : List (Nat × CpInfo)) (last : Nat) : Array CpInfo := ⟨poolList es last⟩
def fileOf (pool : Array CpInfo) (this : Nat) (attrs : Array Attribute := #[]) (ms : Array MethodInfo := #[]) (fl : Nat := 33) (sup : Nat := 0) (ifs : Array Nat := #[]) (fds : Array FieldInfo := #[]) : ClassFile where
  minorVersion := 0
  majorVersion := 65
  constantPool := pool
  accessFlags := fl
  thisClass := this
  superClass := sup
  interfaces := ifs
  fields := fds
  methods := ms
  attributes := attrs
def plain (name : String) (sup : Option ClassId) : Class where
  name := name
  kind := .ordinary
  loader := none
  accessFlags := 33
  super := sup
  interfaces := #[]
  cf := none
  fields := #[]
  methods := #[]
  instanceTypes := #[]
  staticTypes := #[]
  resolved := #[]
  callSites := []
  init := .initialized
  statics := none
  mirror := none

def pool0 : Array CpInfo := pool [(5, u "<init>"), (0, u "()V"), (1, .class_ 10), (1, u "java/lang/Object")] 113

def k0c0 : Code := { maxStack := 0, maxLocals := 1, code := object_method_1_code, exceptionTable := #[], attributes := #[] }
def k0m0 : Method := { name := "<init>", desc := "()V", sig := { parameters := [], returnType := none }, accessFlags := 1, code := some k0c0 }
/-- java/lang/Object -/
def k0 : Class := { plain "java/lang/Object" none with
  accessFlags := 33
  interfaces := #[]
  cf := some (fileOf pool0 8 #[] #[{ accessFlags := 1, nameIndex := 5, descriptorIndex := 6, attributes := #[] }] 33 0 #[] #[])
  fields := #[]
  methods := #[k0m0]
  instanceTypes := #[]
  staticTypes := #[]
  resolved := Array.replicate 124 none
  statics := none }

def pool1 : Array CpInfo := pool [(2, .class_ 4), (1, u "java/lang/Object"), (0, u "<init>"), (0, u "()V"), (0, .integer 2147483647), (0, .class_ 9), (0, u "java/lang/String"), (0, .methodref 8 11), (0, .nameAndType 5 12), (0, u "([C)V"), (0, .class_ 14), (0, u "com/example/overweave/overweave/model/Position"), (0, .methodref 13 16), (0, .nameAndType 5 17), (0, u "(Ljava/lang/String;II)V"), (0, .class_ 19), (0, u "com/example/overweave/overweave/merge/SdkLevels$App"), (0, .interfaceMethodref 21 22), (0, .class_ 23), (0, .nameAndType 24 25), (0, u "java/util/Set"), (0, u "of"), (0, u "()Ljava/util/Set;"), (0, .interfaceMethodref 27 28), (0, .class_ 29), (0, .nameAndType 24 30), (0, u "java/util/Map"), (0, u "()Ljava/util/Map;"), (0, .methodref 18 32), (0, .nameAndType 5 33), (0, u "(Lcom/example/overweave/overweave/model/Position;Lcom/example/overweave/overweave/model/Position;Lcom/example/overweave/overweave/model/Attribute;Lcom/example/overweave/overweave/model/Attribute;Ljava/util/Set;Ljava/util/Map;)V"), (0, .methodref 18 35), (0, .nameAndType 36 37), (0, u "levelsPosition"), (0, u "()Lcom/example/overweave/overweave/model/Position;"), (0, .methodref 13 39), (0, .nameAndType 40 41), (0, u "file"), (0, u "()Ljava/lang/String;"), (0, .methodref 8 43), (0, .nameAndType 44 45), (0, u "equals"), (0, u "(Ljava/lang/Object;)Z"), (0, .methodref 13 47), (0, .nameAndType 48 49), (0, u "line"), (0, u "()I"), (0, .methodref 13 51), (0, .nameAndType 52 49), (0, u "column"), (0, .class_ 54), (0, u "com/example/overweave/overweave/merge/AppLevelsPositionPinLaw"), (2, u "law"), (0, u "(IIIIII)Z")] 9

def k1m0 : Method := { name := "<init>", desc := "()V", sig := { parameters := [], returnType := none }, accessFlags := 2, code := none }
def k1c1 : Code := { maxStack := 8, maxLocals := 19, code := code, exceptionTable := #[], attributes := #[] }
def k1m1 : Method := { name := "law", desc := "(IIIIII)Z", sig := { parameters := [.int, .int, .int, .int, .int, .int], returnType := some .boolean }, accessFlags := 9, code := some k1c1 }
/-- com/example/overweave/overweave/merge/AppLevelsPositionPinLaw -/
def k1 : Class := { plain "com/example/overweave/overweave/merge/AppLevelsPositionPinLaw" (some 0) with
  accessFlags := 49
  interfaces := #[]
  cf := some (fileOf pool1 53 #[] #[{ accessFlags := 2, nameIndex := 5, descriptorIndex := 6, attributes := #[] }, { accessFlags := 9, nameIndex := 57, descriptorIndex := 58, attributes := #[] }] 49 2 #[] #[])
  fields := #[]
  methods := #[k1m0, k1m1]
  instanceTypes := #[]
  staticTypes := #[]
  resolved := Array.replicate 68 none
  statics := none }

def pool2 : Array CpInfo := pool [(1, .class_ 2), (0, u "java/io/Serializable"), (0, .class_ 4), (0, u "java/lang/Object")] 2

/-- java/io/Serializable -/
def k2 : Class := { plain "java/io/Serializable" (some 0) with
  accessFlags := 1537
  interfaces := #[]
  cf := some (fileOf pool2 1 #[] #[] 1537 3 #[] #[])
  fields := #[]
  methods := #[]
  instanceTypes := #[]
  staticTypes := #[]
  resolved := Array.replicate 7 none
  statics := none }

def pool3 : Array CpInfo := pool [(1, .class_ 2), (0, u "java/lang/Comparable"), (0, .class_ 4), (0, u "java/lang/Object")] 7

/-- java/lang/Comparable -/
def k3 : Class := { plain "java/lang/Comparable" (some 0) with
  accessFlags := 1537
  interfaces := #[]
  cf := some (fileOf pool3 1 #[] #[] 1537 3 #[] #[])
  fields := #[]
  methods := #[]
  instanceTypes := #[]
  staticTypes := #[]
  resolved := Array.replicate 12 none
  statics := none }

def pool4 : Array CpInfo := pool [(2, .class_ 4), (1, u "java/lang/CharSequence"), (42, .class_ 48), (0, u "java/lang/CharSequence$1CodePointIterator"), (10, .class_ 60), (0, u "java/lang/CharSequence$1CharIterator"), (5, .class_ 67), (0, u "java/lang/Object")] 63

/-- java/lang/CharSequence -/
def k4 : Class := { plain "java/lang/CharSequence" (some 0) with
  accessFlags := 1537
  interfaces := #[]
  cf := some (fileOf pool4 2 #[.nestMembers #[47, 59]] #[] 1537 66 #[] #[])
  fields := #[]
  methods := #[]
  instanceTypes := #[]
  staticTypes := #[]
  resolved := Array.replicate 131 none
  statics := none }

def pool5 : Array CpInfo := pool [(1, .class_ 2), (0, u "java/lang/constant/Constable"), (0, .class_ 4), (0, u "java/lang/Object")] 6

/-- java/lang/constant/Constable -/
def k5 : Class := { plain "java/lang/constant/Constable" (some 0) with
  accessFlags := 1537
  interfaces := #[]
  cf := some (fileOf pool5 1 #[] #[] 1537 3 #[] #[])
  fields := #[]
  methods := #[]
  instanceTypes := #[]
  staticTypes := #[]
  resolved := Array.replicate 11 none
  statics := none }

def pool6 : Array CpInfo := pool [(1, .class_ 2), (0, u "java/lang/constant/ConstantDesc"), (0, .class_ 4), (0, u "java/lang/Object")] 32

/-- java/lang/constant/ConstantDesc -/
def k6 : Class := { plain "java/lang/constant/ConstantDesc" (some 0) with
  accessFlags := 1537
  interfaces := #[]
  cf := some (fileOf pool6 1 #[] #[] 1537 3 #[] #[])
  fields := #[]
  methods := #[]
  instanceTypes := #[]
  staticTypes := #[]
  resolved := Array.replicate 37 none
  statics := none }

def pool7 : Array CpInfo := pool [(1, .methodref 2 3), (0, .class_ 4), (0, .nameAndType 5 6), (0, u "java/lang/Object"), (0, u "<init>"), (0, u "()V"), (2, .fieldref 10 11), (0, .class_ 12), (0, .nameAndType 13 14), (0, u "java/lang/String"), (0, u "value"), (0, u "[B"), (0, .fieldref 10 16), (0, .nameAndType 17 18), (0, u "coder"), (0, u "B"), (2, u "hash"), (0, u "I"), (2, u "hashIsZero"), (0, u "Z"), (0, .methodref 10 28), (0, .nameAndType 5 29), (0, u "([CIILjava/lang/Void;)V"), (8, .fieldref 10 39), (0, .nameAndType 40 26), (0, u "COMPACT_STRINGS"), (1, .class_ 44), (1, u "java/lang/StringUTF16"), (0, u "compress"), (1, .methodref 42 48), (0, .nameAndType 49 50), (0, u "coderFromArrayLen"), (0, u "([BI)B"), (126, .methodref 42 178), (0, .nameAndType 45 179), (0, u "([CII)[B"), (363, u "equals"), (29, u "(Ljava/lang/Object;)Z"), (1, .class_ 576), (0, u "java/lang/CharSequence"), (22, u "CASE_INSENSITIVE_ORDER"), (0, u "Ljava/util/Comparator;"), (409, u "([C)V"), (90, u "serialPersistentFields"), (0, u "[Ljava/io/ObjectStreamField;"), (0, .class_ 1104), (0, u "java/lang/String$CaseInsensitiveComparator"), (1, .class_ 1107), (0, u "java/io/Serializable"), (0, .class_ 1109), (0, u "java/lang/Comparable"), (0, .class_ 1111), (0, u "java/lang/constant/Constable"), (0, .class_ 1113), (0, u "java/lang/constant/ConstantDesc"), (2, u "serialVersionUID"), (0, u "J"), (3, u "REPL"), (0, u "C"), (2, u "LATIN1"), (1, u "UTF16")] 323

def k7m0 : Method := { name := "<init>", desc := "()V", sig := { parameters := [], returnType := none }, accessFlags := 1, code := none }
def k7c1 : Code := { maxStack := 5, maxLocals := 2, code := jdk_42_method_3_code, exceptionTable := #[], attributes := #[] }
def k7m1 : Method := { name := "<init>", desc := "([C)V", sig := { parameters := [(.array .char)], returnType := none }, accessFlags := 1, code := some k7c1 }
def k7c2 : Code := { maxStack := 2, maxLocals := 3, code := jdk_42_method_66_code, exceptionTable := #[], attributes := #[] }
def k7m2 : Method := { name := "equals", desc := "(Ljava/lang/Object;)Z", sig := { parameters := [(.object "java/lang/Object")], returnType := some .boolean }, accessFlags := 1, code := some k7c2 }
def k7c3 : Code := { maxStack := 4, maxLocals := 6, code := jdk_42_method_149_code, exceptionTable := #[], attributes := #[] }
def k7m3 : Method := { name := "<init>", desc := "([CIILjava/lang/Void;)V", sig := { parameters := [(.array .char), .int, .int, (.object "java/lang/Void")], returnType := none }, accessFlags := 2, code := some k7c3 }
/-- java/lang/String -/
def k7 : Class := { plain "java/lang/String" (some 0) with
  accessFlags := 49
  interfaces := #[2, 3, 4, 5, 6]
  cf := some (fileOf pool7 10 #[.nestMembers #[1103]] #[{ accessFlags := 1, nameIndex := 5, descriptorIndex := 6, attributes := #[] }, { accessFlags := 1, nameIndex := 5, descriptorIndex := 1010, attributes := #[] }, { accessFlags := 1, nameIndex := 543, descriptorIndex := 573, attributes := #[] }, { accessFlags := 2, nameIndex := 5, descriptorIndex := 29, attributes := #[] }] 49 2 #[1106, 1108, 575, 1110, 1112] #[{ accessFlags := 18, nameIndex := 13, descriptorIndex := 14, attributes := #[] }, { accessFlags := 18, nameIndex := 17, descriptorIndex := 18, attributes := #[] }, { accessFlags := 2, nameIndex := 21, descriptorIndex := 22, attributes := #[] }, { accessFlags := 2, nameIndex := 25, descriptorIndex := 26, attributes := #[] }, { accessFlags := 26, nameIndex := 1116, descriptorIndex := 1117, attributes := #[] }, { accessFlags := 24, nameIndex := 40, descriptorIndex := 26, attributes := #[] }, { accessFlags := 26, nameIndex := 1101, descriptorIndex := 1102, attributes := #[] }, { accessFlags := 26, nameIndex := 1121, descriptorIndex := 1122, attributes := #[] }, { accessFlags := 25, nameIndex := 599, descriptorIndex := 600, attributes := #[] }, { accessFlags := 24, nameIndex := 1125, descriptorIndex := 18, attributes := #[] }, { accessFlags := 24, nameIndex := 1127, descriptorIndex := 18, attributes := #[] }])
  fields := #[{ name := "value", type := (.array .byte), accessFlags := 18, slot := 0, constantValue := 0 }, { name := "coder", type := .byte, accessFlags := 18, slot := 1, constantValue := 0 }, { name := "hash", type := .int, accessFlags := 2, slot := 2, constantValue := 0 }, { name := "hashIsZero", type := .boolean, accessFlags := 2, slot := 3, constantValue := 0 }, { name := "serialVersionUID", type := .long, accessFlags := 26, slot := 0, constantValue := 0 }, { name := "COMPACT_STRINGS", type := .boolean, accessFlags := 24, slot := 1, constantValue := 0 }, { name := "serialPersistentFields", type := (.array (.object "java/io/ObjectStreamField")), accessFlags := 26, slot := 2, constantValue := 0 }, { name := "REPL", type := .char, accessFlags := 26, slot := 3, constantValue := 0 }, { name := "CASE_INSENSITIVE_ORDER", type := (.object "java/util/Comparator"), accessFlags := 25, slot := 4, constantValue := 0 }, { name := "LATIN1", type := .byte, accessFlags := 24, slot := 5, constantValue := 0 }, { name := "UTF16", type := .byte, accessFlags := 24, slot := 6, constantValue := 0 }]
  methods := #[k7m0, k7m1, k7m2, k7m3]
  instanceTypes := #[(.array .byte), .byte, .int, .boolean]
  staticTypes := #[.long, .boolean, (.array (.object "java/io/ObjectStreamField")), .char, (.object "java/util/Comparator"), .byte, .byte]
  resolved := Array.replicate 1451 none
  statics := some 0 }

def pool8 : Array CpInfo := pool [(6, .class_ 8), (1, u "java/lang/Object"), (0, u "<init>"), (0, u "()V"), (1, .class_ 14), (1, u "java/lang/StringUTF16"), (31, u "$assertionsDisabled"), (0, u "Z"), (13, u "HI_BYTE_SHIFT"), (0, u "I"), (2, u "LO_BYTE_SHIFT"), (49, .methodref 12 116), (0, .nameAndType 117 118), (0, u "compress"), (0, u "([CI[BII)I"), (3, u "([CII)[B"), (138, u "coderFromArrayLen"), (0, u "([BI)B"), (106, .class_ 371), (1, u "java/lang/StringUTF16$LinesSpliterator"), (58, u "MAX_LENGTH"), (196, .class_ 628), (0, u "java/lang/StringUTF16$CodePointsSpliterator"), (0, .class_ 630), (0, u "java/lang/StringUTF16$CharsSpliterator")] 4

def k8m0 : Method := { name := "<init>", desc := "()V", sig := { parameters := [], returnType := none }, accessFlags := 0, code := none }
def k8c1 : Code := { maxStack := 2, maxLocals := 2, code := jdk_52_method_15_code, exceptionTable := #[], attributes := #[] }
def k8m1 : Method := { name := "coderFromArrayLen", desc := "([BI)B", sig := { parameters := [(.array .byte), .int], returnType := some .byte }, accessFlags := 8, code := some k8c1 }
def k8c2 : Code := { maxStack := 5, maxLocals := 6, code := jdk_52_method_16_code, exceptionTable := #[], attributes := #[] }
def k8m2 : Method := { name := "compress", desc := "([CII)[B", sig := { parameters := [(.array .char), .int, .int], returnType := some (.array .byte) }, accessFlags := 9, code := some k8c2 }
def k8c3 : Code := { maxStack := 3, maxLocals := 7, code := jdk_52_method_21_code, exceptionTable := #[], attributes := #[] }
def k8m3 : Method := { name := "compress", desc := "([CI[BII)I", sig := { parameters := [(.array .char), .int, (.array .byte), .int, .int], returnType := some .int }, accessFlags := 9, code := some k8c3 }
/-- java/lang/StringUTF16 -/
def k8 : Class := { plain "java/lang/StringUTF16" (some 0) with
  accessFlags := 48
  interfaces := #[]
  cf := some (fileOf pool8 12 #[.nestMembers #[627, 629, 369]] #[{ accessFlags := 0, nameIndex := 9, descriptorIndex := 10, attributes := #[] }, { accessFlags := 8, nameIndex := 261, descriptorIndex := 262, attributes := #[] }, { accessFlags := 9, nameIndex := 117, descriptorIndex := 122, attributes := #[] }, { accessFlags := 9, nameIndex := 117, descriptorIndex := 118, attributes := #[] }] 48 6 #[] #[{ accessFlags := 26, nameIndex := 61, descriptorIndex := 62, attributes := #[] }, { accessFlags := 26, nameIndex := 65, descriptorIndex := 62, attributes := #[] }, { accessFlags := 24, nameIndex := 430, descriptorIndex := 62, attributes := #[] }, { accessFlags := 4120, nameIndex := 46, descriptorIndex := 47, attributes := #[] }])
  fields := #[{ name := "HI_BYTE_SHIFT", type := .int, accessFlags := 26, slot := 0, constantValue := 0 }, { name := "LO_BYTE_SHIFT", type := .int, accessFlags := 26, slot := 1, constantValue := 0 }, { name := "MAX_LENGTH", type := .int, accessFlags := 24, slot := 2, constantValue := 0 }, { name := "$assertionsDisabled", type := .boolean, accessFlags := 4120, slot := 3, constantValue := 0 }]
  methods := #[k8m0, k8m1, k8m2, k8m3]
  instanceTypes := #[]
  staticTypes := #[.int, .int, .int, .boolean]
  resolved := Array.replicate 635 none
  statics := none }

def pool9 : Array CpInfo := pool [(1, .methodref 2 3), (0, .class_ 4), (0, .nameAndType 5 6), (0, u "java/lang/Object"), (0, u "<init>"), (0, u "()V"), (0, .class_ 8), (0, u "java/lang/Record")] 13

def k9c0 : Code := { maxStack := 1, maxLocals := 1, code := jdk_30_method_1_code, exceptionTable := #[], attributes := #[] }
def k9m0 : Method := { name := "<init>", desc := "()V", sig := { parameters := [], returnType := none }, accessFlags := 4, code := some k9c0 }
/-- java/lang/Record -/
def k9 : Class := { plain "java/lang/Record" (some 0) with
  accessFlags := 1057
  interfaces := #[]
  cf := some (fileOf pool9 7 #[] #[{ accessFlags := 4, nameIndex := 5, descriptorIndex := 6, attributes := #[] }] 1057 2 #[] #[])
  fields := #[]
  methods := #[k9m0]
  instanceTypes := #[]
  staticTypes := #[]
  resolved := Array.replicate 22 none
  statics := none }

def pool10 : Array CpInfo := pool [(1, .methodref 2 3), (0, .class_ 4), (0, .nameAndType 5 6), (0, u "java/lang/Record"), (0, u "<init>"), (0, u "()V"), (0, .string 8), (0, u "file"), (0, .methodref 10 11), (0, .class_ 12), (0, .nameAndType 13 14), (0, u "java/util/Objects"), (0, u "requireNonNull"), (0, u "(Ljava/lang/Object;Ljava/lang/String;)Ljava/lang/Object;"), (7, .fieldref 23 24), (0, .class_ 25), (0, .nameAndType 8 26), (0, u "com/example/overweave/overweave/model/Position"), (0, u "Ljava/lang/String;"), (0, .fieldref 23 28), (0, .nameAndType 29 30), (0, u "line"), (0, u "I"), (0, .fieldref 23 32), (0, .nameAndType 33 30), (0, u "column"), (2, u "(Ljava/lang/String;II)V"), (21, u "()Ljava/lang/String;"), (0, u "()I")] 31

def k10c0 : Code := { maxStack := 3, maxLocals := 4, code := prog_46_method_1_code, exceptionTable := #[], attributes := #[] }
def k10m0 : Method := { name := "<init>", desc := "(Ljava/lang/String;II)V", sig := { parameters := [(.object "java/lang/String"), .int, .int], returnType := none }, accessFlags := 1, code := some k10c0 }
def k10c1 : Code := { maxStack := 1, maxLocals := 1, code := prog_46_method_6_code, exceptionTable := #[], attributes := #[] }
def k10m1 : Method := { name := "file", desc := "()Ljava/lang/String;", sig := { parameters := [], returnType := some (.object "java/lang/String") }, accessFlags := 1, code := some k10c1 }
def k10c2 : Code := { maxStack := 1, maxLocals := 1, code := prog_46_method_7_code, exceptionTable := #[], attributes := #[] }
def k10m2 : Method := { name := "line", desc := "()I", sig := { parameters := [], returnType := some .int }, accessFlags := 1, code := some k10c2 }
def k10c3 : Code := { maxStack := 1, maxLocals := 1, code := prog_46_method_8_code, exceptionTable := #[], attributes := #[] }
def k10m3 : Method := { name := "column", desc := "()I", sig := { parameters := [], returnType := some .int }, accessFlags := 1, code := some k10c3 }
/-- com/example/overweave/overweave/model/Position -/
def k10 : Class := { plain "com/example/overweave/overweave/model/Position" (some 9) with
  accessFlags := 49
  interfaces := #[]
  cf := some (fileOf pool10 23 #[] #[{ accessFlags := 1, nameIndex := 5, descriptorIndex := 36, attributes := #[] }, { accessFlags := 1, nameIndex := 8, descriptorIndex := 58, attributes := #[] }, { accessFlags := 1, nameIndex := 29, descriptorIndex := 59, attributes := #[] }, { accessFlags := 1, nameIndex := 33, descriptorIndex := 59, attributes := #[] }] 49 2 #[] #[{ accessFlags := 18, nameIndex := 8, descriptorIndex := 26, attributes := #[] }, { accessFlags := 18, nameIndex := 29, descriptorIndex := 30, attributes := #[] }, { accessFlags := 18, nameIndex := 33, descriptorIndex := 30, attributes := #[] }])
  fields := #[{ name := "file", type := (.object "java/lang/String"), accessFlags := 18, slot := 0, constantValue := 0 }, { name := "line", type := .int, accessFlags := 18, slot := 1, constantValue := 0 }, { name := "column", type := .int, accessFlags := 18, slot := 2, constantValue := 0 }]
  methods := #[k10m0, k10m1, k10m2, k10m3]
  instanceTypes := #[(.object "java/lang/String"), .int, .int]
  staticTypes := #[]
  resolved := Array.replicate 91 none
  statics := none }

def pool11 : Array CpInfo := pool [(2, .class_ 4), (1, u "java/lang/Object"), (0, u "<init>"), (0, u "()V"), (35, .class_ 44), (1, u "java/util/Objects"), (0, u "requireNonNull"), (48, u "(Ljava/lang/Object;Ljava/lang/String;)Ljava/lang/Object;")] 89

def k11m0 : Method := { name := "<init>", desc := "()V", sig := { parameters := [], returnType := none }, accessFlags := 2, code := none }
def k11c1 : Code := { maxStack := 3, maxLocals := 2, code := jdk_31_method_11_code, exceptionTable := #[], attributes := #[] }
def k11m1 : Method := { name := "requireNonNull", desc := "(Ljava/lang/Object;Ljava/lang/String;)Ljava/lang/Object;", sig := { parameters := [(.object "java/lang/Object"), (.object "java/lang/String")], returnType := some (.object "java/lang/Object") }, accessFlags := 9, code := some k11c1 }
/-- java/util/Objects -/
def k11 : Class := { plain "java/util/Objects" (some 0) with
  accessFlags := 49
  interfaces := #[]
  cf := some (fileOf pool11 42 #[] #[{ accessFlags := 2, nameIndex := 5, descriptorIndex := 6, attributes := #[] }, { accessFlags := 9, nameIndex := 45, descriptorIndex := 94, attributes := #[] }] 49 2 #[] #[])
  fields := #[]
  methods := #[k11m0, k11m1]
  instanceTypes := #[]
  staticTypes := #[]
  resolved := Array.replicate 184 none
  statics := none }

def pool12 : Array CpInfo := pool [(1, .class_ 2), (0, u "com/example/overweave/overweave/merge/SdkLevels"), (0, .methodref 4 5), (0, .class_ 6), (0, .nameAndType 7 8), (0, u "java/lang/Record"), (0, u "<init>"), (0, u "()V"), (0, .string 10), (0, u "main"), (0, .methodref 12 13), (0, .class_ 14), (0, .nameAndType 15 16), (0, u "java/util/Objects"), (0, u "requireNonNull"), (0, u "(Ljava/lang/Object;Ljava/lang/String;)Ljava/lang/Object;"), (0, .interfaceMethodref 18 19), (0, .class_ 20), (0, .nameAndType 21 22), (0, u "java/util/Set"), (0, u "copyOf"), (0, u "(Ljava/util/Collection;)Ljava/util/Set;"), (0, .interfaceMethodref 24 25), (0, .class_ 26), (0, .nameAndType 21 27), (0, u "java/util/Map"), (0, u "(Ljava/util/Map;)Ljava/util/Map;"), (0, .fieldref 29 30), (0, .class_ 31), (0, .nameAndType 10 32), (0, u "com/example/overweave/overweave/merge/SdkLevels$App"), (0, u "Lcom/example/overweave/overweave/model/Position;"), (0, .fieldref 29 34), (0, .nameAndType 35 32), (0, u "usesSdk"), (0, .fieldref 29 37), (0, .nameAndType 38 39), (0, u "minAttribute"), (0, u "Lcom/example/overweave/overweave/model/Attribute;"), (0, .fieldref 29 41), (0, .nameAndType 42 39), (0, u "targetAttribute"), (0, .fieldref 29 44), (0, .nameAndType 45 46), (0, u "overriding"), (0, u "Ljava/util/Set;"), (0, .fieldref 29 48), (0, .nameAndType 49 50), (0, u "properties"), (0, u "Ljava/util/Map;"), (89, u "(Lcom/example/overweave/overweave/model/Position;Lcom/example/overweave/overweave/model/Position;Lcom/example/overweave/overweave/model/Attribute;Lcom/example/overweave/overweave/model/Attribute;Ljava/util/Set;Ljava/util/Map;)V"), (9, u "levelsPosition"), (0, u "()Lcom/example/overweave/overweave/model/Position;")] 44

def k12c0 : Code := { maxStack := 2, maxLocals := 7, code := prog_39_method_1_code, exceptionTable := #[], attributes := #[] }
def k12m0 : Method := { name := "<init>", desc := "(Lcom/example/overweave/overweave/model/Position;Lcom/example/overweave/overweave/model/Position;Lcom/example/overweave/overweave/model/Attribute;Lcom/example/overweave/overweave/model/Attribute;Ljava/util/Set;Ljava/util/Map;)V", sig := { parameters := [(.object "com/example/overweave/overweave/model/Position"), (.object "com/example/overweave/overweave/model/Position"), (.object "com/example/overweave/overweave/model/Attribute"), (.object "com/example/overweave/overweave/model/Attribute"), (.object "java/util/Set"), (.object "java/util/Map")], returnType := none }, accessFlags := 0, code := some k12c0 }
def k12c1 : Code := { maxStack := 1, maxLocals := 1, code := prog_39_method_6_code, exceptionTable := #[], attributes := #[] }
def k12m1 : Method := { name := "levelsPosition", desc := "()Lcom/example/overweave/overweave/model/Position;", sig := { parameters := [], returnType := some (.object "com/example/overweave/overweave/model/Position") }, accessFlags := 0, code := some k12c1 }
/-- com/example/overweave/overweave/merge/SdkLevels$App -/
def k12 : Class := { plain "com/example/overweave/overweave/merge/SdkLevels$App" (some 9) with
  accessFlags := 48
  interfaces := #[]
  cf := some (fileOf pool12 29 #[.nestHost 1] #[{ accessFlags := 0, nameIndex := 7, descriptorIndex := 140, attributes := #[] }, { accessFlags := 0, nameIndex := 150, descriptorIndex := 151, attributes := #[] }] 48 4 #[] #[{ accessFlags := 18, nameIndex := 10, descriptorIndex := 32, attributes := #[] }, { accessFlags := 18, nameIndex := 35, descriptorIndex := 32, attributes := #[] }, { accessFlags := 18, nameIndex := 38, descriptorIndex := 39, attributes := #[] }, { accessFlags := 18, nameIndex := 42, descriptorIndex := 39, attributes := #[] }, { accessFlags := 18, nameIndex := 45, descriptorIndex := 46, attributes := #[] }, { accessFlags := 18, nameIndex := 49, descriptorIndex := 50, attributes := #[] }])
  fields := #[{ name := "main", type := (.object "com/example/overweave/overweave/model/Position"), accessFlags := 18, slot := 0, constantValue := 0 }, { name := "usesSdk", type := (.object "com/example/overweave/overweave/model/Position"), accessFlags := 18, slot := 1, constantValue := 0 }, { name := "minAttribute", type := (.object "com/example/overweave/overweave/model/Attribute"), accessFlags := 18, slot := 2, constantValue := 0 }, { name := "targetAttribute", type := (.object "com/example/overweave/overweave/model/Attribute"), accessFlags := 18, slot := 3, constantValue := 0 }, { name := "overriding", type := (.object "java/util/Set"), accessFlags := 18, slot := 4, constantValue := 0 }, { name := "properties", type := (.object "java/util/Map"), accessFlags := 18, slot := 5, constantValue := 0 }]
  methods := #[k12m0, k12m1]
  instanceTypes := #[(.object "com/example/overweave/overweave/model/Position"), (.object "com/example/overweave/overweave/model/Position"), (.object "com/example/overweave/overweave/model/Attribute"), (.object "com/example/overweave/overweave/model/Attribute"), (.object "java/util/Set"), (.object "java/util/Map")]
  staticTypes := #[]
  resolved := Array.replicate 196 none
  statics := none }

def pool13 : Array CpInfo := pool [(8, .class_ 10), (1, u "java/lang/Iterable"), (24, .class_ 36), (0, u "java/lang/Object")] 25

/-- java/lang/Iterable -/
def k13 : Class := { plain "java/lang/Iterable" (some 0) with
  accessFlags := 1537
  interfaces := #[]
  cf := some (fileOf pool13 8 #[] #[] 1537 35 #[] #[])
  fields := #[]
  methods := #[]
  instanceTypes := #[]
  staticTypes := #[]
  resolved := Array.replicate 62 none
  statics := none }

def pool14 : Array CpInfo := pool [(10, .class_ 12), (1, u "java/util/Collection"), (47, .class_ 61), (0, u "java/lang/Object"), (0, .class_ 63), (0, u "java/lang/Iterable")] 51

/-- java/util/Collection -/
def k14 : Class := { plain "java/util/Collection" (some 0) with
  accessFlags := 1537
  interfaces := #[13]
  cf := some (fileOf pool14 10 #[] #[] 1537 60 #[62] #[])
  fields := #[]
  methods := #[]
  instanceTypes := #[]
  staticTypes := #[]
  resolved := Array.replicate 115 none
  statics := none }

def pool15 : Array CpInfo := pool [(9, .fieldref 10 11), (0, .class_ 12), (0, .nameAndType 13 14), (0, u "java/util/ImmutableCollections"), (0, u "EMPTY_SET"), (0, u "Ljava/util/ImmutableCollections$SetN;"), (11, .class_ 27), (0, u "java/lang/Object"), (3, .class_ 32), (0, u "java/util/ImmutableCollections$AbstractImmutableSet"), (0, .class_ 34), (0, u "java/util/Set"), (1, .class_ 38), (1, u "java/util/Collection"), (4, u "of"), (0, u "()Ljava/util/Set;"), (86, u "copyOf"), (0, u "(Ljava/util/Collection;)Ljava/util/Set;")] 11

def k15c0 : Code := { maxStack := 1, maxLocals := 0, code := jdk_96_method_17_code, exceptionTable := #[], attributes := #[] }
def k15m0 : Method := { name := "of", desc := "()Ljava/util/Set;", sig := { parameters := [], returnType := some (.object "java/util/Set") }, accessFlags := 9, code := some k15c0 }
def k15c1 : Code := { maxStack := 3, maxLocals := 1, code := jdk_96_method_29_code, exceptionTable := #[], attributes := #[] }
def k15m1 : Method := { name := "copyOf", desc := "(Ljava/util/Collection;)Ljava/util/Set;", sig := { parameters := [(.object "java/util/Collection")], returnType := some (.object "java/util/Set") }, accessFlags := 9, code := some k15c1 }
/-- java/util/Set -/
def k15 : Class := { plain "java/util/Set" (some 0) with
  accessFlags := 1537
  interfaces := #[14]
  cf := some (fileOf pool15 33 #[] #[{ accessFlags := 9, nameIndex := 43, descriptorIndex := 44, attributes := #[] }, { accessFlags := 9, nameIndex := 131, descriptorIndex := 132, attributes := #[] }] 1537 26 #[36] #[])
  fields := #[]
  methods := #[k15m0, k15m1]
  instanceTypes := #[]
  staticTypes := #[]
  resolved := Array.replicate 144 none
  statics := none }

def pool16 : Array CpInfo := pool [(2, .class_ 4), (1, u "java/lang/Object"), (0, u "<init>"), (0, u "()V"), (3, .class_ 11), (0, u "java/util/ImmutableCollections$List12"), (0, .class_ 13), (0, u "java/util/ImmutableCollections$ListN"), (3, u "Z"), (29, .class_ 49), (1, u "java/util/ImmutableCollections"), (0, u "$assertionsDisabled"), (5, u "[Ljava/lang/Object;"), (5, u "EMPTY_LIST"), (0, u "Ljava/util/ImmutableCollections$ListN;"), (8, u "EMPTY_LIST_NULLS"), (22, u "SALT32L"), (0, u "J"), (2, u "REVERSE"), (6, u "archivedObjects"), (2, u "EMPTY"), (0, u "Ljava/lang/Object;"), (0, .class_ 112), (0, u "java/util/ImmutableCollections$SetN"), (5, u "EMPTY_SET"), (0, u "Ljava/util/ImmutableCollections$SetN;"), (0, .class_ 121), (0, u "java/util/ImmutableCollections$MapN"), (3, u "EMPTY_MAP"), (0, u "Ljava/util/ImmutableCollections$MapN;"), (4, u "EXPAND_FACTOR"), (0, u "I"), (36, .class_ 170), (0, u "java/util/ImmutableCollections$MapN$MapNIterator"), (0, .class_ 172), (0, u "java/util/ImmutableCollections$MapN$1"), (0, .class_ 174), (0, u "java/util/ImmutableCollections$Map1"), (0, .class_ 176), (0, u "java/util/ImmutableCollections$AbstractImmutableMap"), (0, .class_ 178), (0, u "java/util/ImmutableCollections$SetN$SetNIterator"), (0, .class_ 180), (0, u "java/util/ImmutableCollections$Set12"), (0, .class_ 182), (0, u "java/util/ImmutableCollections$Set12$1"), (0, .class_ 184), (0, u "java/util/ImmutableCollections$AbstractImmutableSet"), (0, .class_ 186), (0, u "java/util/ImmutableCollections$SubList"), (0, .class_ 188), (0, u "java/util/ImmutableCollections$ListItr"), (0, .class_ 190), (0, u "java/util/ImmutableCollections$AbstractImmutableList"), (0, .class_ 192), (0, u "java/util/ImmutableCollections$AbstractImmutableCollection"), (0, .class_ 194), (0, u "java/util/ImmutableCollections$Access"), (0, .class_ 196), (0, u "java/util/ImmutableCollections$Access$1")] 16

def k16m0 : Method := { name := "<init>", desc := "()V", sig := { parameters := [], returnType := none }, accessFlags := 2, code := none }
/-- java/util/ImmutableCollections -/
def k16 : Class := { plain "java/util/ImmutableCollections" (some 0) with
  accessFlags := 32
  interfaces := #[]
  cf := some (fileOf pool16 47 #[.nestMembers #[120, 169, 171, 173, 175, 111, 177, 179, 181, 183, 12, 10, 185, 187, 189, 191, 193, 195]] #[{ accessFlags := 2, nameIndex := 5, descriptorIndex := 6, attributes := #[] }] 32 2 #[] #[{ accessFlags := 26, nameIndex := 95, descriptorIndex := 96, attributes := #[] }, { accessFlags := 26, nameIndex := 99, descriptorIndex := 17, attributes := #[] }, { accessFlags := 10, nameIndex := 106, descriptorIndex := 56, attributes := #[] }, { accessFlags := 26, nameIndex := 109, descriptorIndex := 110, attributes := #[] }, { accessFlags := 24, nameIndex := 62, descriptorIndex := 63, attributes := #[] }, { accessFlags := 24, nameIndex := 72, descriptorIndex := 63, attributes := #[] }, { accessFlags := 24, nameIndex := 118, descriptorIndex := 119, attributes := #[] }, { accessFlags := 24, nameIndex := 125, descriptorIndex := 126, attributes := #[] }, { accessFlags := 24, nameIndex := 131, descriptorIndex := 132, attributes := #[] }, { accessFlags := 4120, nameIndex := 50, descriptorIndex := 17, attributes := #[] }])
  fields := #[{ name := "SALT32L", type := .long, accessFlags := 26, slot := 0, constantValue := 0 }, { name := "REVERSE", type := .boolean, accessFlags := 26, slot := 1, constantValue := 0 }, { name := "archivedObjects", type := (.array (.object "java/lang/Object")), accessFlags := 10, slot := 2, constantValue := 0 }, { name := "EMPTY", type := (.object "java/lang/Object"), accessFlags := 26, slot := 3, constantValue := 0 }, { name := "EMPTY_LIST", type := (.object "java/util/ImmutableCollections$ListN"), accessFlags := 24, slot := 4, constantValue := 0 }, { name := "EMPTY_LIST_NULLS", type := (.object "java/util/ImmutableCollections$ListN"), accessFlags := 24, slot := 5, constantValue := 0 }, { name := "EMPTY_SET", type := (.object "java/util/ImmutableCollections$SetN"), accessFlags := 24, slot := 6, constantValue := 0 }, { name := "EMPTY_MAP", type := (.object "java/util/ImmutableCollections$MapN"), accessFlags := 24, slot := 7, constantValue := 0 }, { name := "EXPAND_FACTOR", type := .int, accessFlags := 24, slot := 8, constantValue := 0 }, { name := "$assertionsDisabled", type := .boolean, accessFlags := 4120, slot := 9, constantValue := 0 }]
  methods := #[k16m0]
  instanceTypes := #[]
  staticTypes := #[.long, .boolean, (.array (.object "java/lang/Object")), (.object "java/lang/Object"), (.object "java/util/ImmutableCollections$ListN"), (.object "java/util/ImmutableCollections$ListN"), (.object "java/util/ImmutableCollections$SetN"), (.object "java/util/ImmutableCollections$MapN"), .int, .boolean]
  resolved := Array.replicate 213 none
  statics := some 1 }

def pool17 : Array CpInfo := pool [(2, .class_ 4), (1, u "java/util/Map"), (31, .class_ 37), (0, u "java/util/Map$Entry"), (43, .fieldref 82 83), (0, .class_ 84), (0, .nameAndType 85 86), (0, u "java/util/ImmutableCollections"), (0, u "EMPTY_MAP"), (0, u "Ljava/util/ImmutableCollections$MapN;"), (6, .class_ 94), (0, u "java/lang/Object"), (6, .class_ 102), (0, u "java/util/ImmutableCollections$AbstractImmutableMap"), (5, u "of"), (0, u "()Ljava/util/Map;"), (140, u "copyOf"), (0, u "(Ljava/util/Map;)Ljava/util/Map;")] 11

def k17c0 : Code := { maxStack := 1, maxLocals := 0, code := jdk_72_method_26_code, exceptionTable := #[], attributes := #[] }
def k17m0 : Method := { name := "of", desc := "()Ljava/util/Map;", sig := { parameters := [], returnType := some (.object "java/util/Map") }, accessFlags := 9, code := some k17c0 }
def k17c1 : Code := { maxStack := 2, maxLocals := 1, code := jdk_72_method_39_code, exceptionTable := #[], attributes := #[] }
def k17m1 : Method := { name := "copyOf", desc := "(Ljava/util/Map;)Ljava/util/Map;", sig := { parameters := [(.object "java/util/Map")], returnType := some (.object "java/util/Map") }, accessFlags := 9, code := some k17c1 }
/-- java/util/Map -/
def k17 : Class := { plain "java/util/Map" (some 0) with
  accessFlags := 1537
  interfaces := #[]
  cf := some (fileOf pool17 2 #[.nestMembers #[36]] #[{ accessFlags := 9, nameIndex := 108, descriptorIndex := 109, attributes := #[] }, { accessFlags := 9, nameIndex := 250, descriptorIndex := 251, attributes := #[] }] 1537 93 #[] #[])
  fields := #[]
  methods := #[k17m0, k17m1]
  instanceTypes := #[]
  staticTypes := #[]
  resolved := Array.replicate 263 none
  statics := none }

def pool18 : Array CpInfo := pool [(2, .class_ 4), (1, u "java/lang/Object"), (0, u "<init>"), (0, u "()V"), (1, .class_ 10), (1, u "java/util/AbstractCollection"), (66, .class_ 78), (0, u "java/util/Collection")] 81

def k18m0 : Method := { name := "<init>", desc := "()V", sig := { parameters := [], returnType := none }, accessFlags := 4, code := none }
/-- java/util/AbstractCollection -/
def k18 : Class := { plain "java/util/AbstractCollection" (some 0) with
  accessFlags := 1057
  interfaces := #[14]
  cf := some (fileOf pool18 8 #[] #[{ accessFlags := 4, nameIndex := 5, descriptorIndex := 6, attributes := #[] }] 1057 2 #[77] #[])
  fields := #[]
  methods := #[k18m0]
  instanceTypes := #[]
  staticTypes := #[]
  resolved := Array.replicate 160 none
  statics := none }

def pool19 : Array CpInfo := pool [(2, .class_ 4), (1, u "java/util/AbstractCollection"), (0, u "<init>"), (0, u "()V"), (1, .class_ 10), (1, u "java/util/ImmutableCollections"), (2, .class_ 14), (0, u "java/util/ImmutableCollections$AbstractImmutableCollection")] 41

def k19m0 : Method := { name := "<init>", desc := "()V", sig := { parameters := [], returnType := none }, accessFlags := 0, code := none }
/-- java/util/ImmutableCollections$AbstractImmutableCollection -/
def k19 : Class := { plain "java/util/ImmutableCollections$AbstractImmutableCollection" (some 18) with
  accessFlags := 1056
  interfaces := #[]
  cf := some (fileOf pool19 13 #[.nestHost 8] #[{ accessFlags := 0, nameIndex := 5, descriptorIndex := 6, attributes := #[] }] 1056 2 #[] #[])
  fields := #[]
  methods := #[k19m0]
  instanceTypes := #[]
  staticTypes := #[]
  resolved := Array.replicate 56 none
  statics := none }

def pool20 : Array CpInfo := pool [(2, .class_ 4), (1, u "java/util/ImmutableCollections$AbstractImmutableCollection"), (0, u "<init>"), (0, u "()V"), (0, .class_ 8), (0, u "java/util/Set"), (7, .class_ 17), (0, u "java/util/ImmutableCollections$AbstractImmutableSet"), (43, .class_ 62), (0, u "java/util/ImmutableCollections")] 3

def k20m0 : Method := { name := "<init>", desc := "()V", sig := { parameters := [], returnType := none }, accessFlags := 0, code := none }
/-- java/util/ImmutableCollections$AbstractImmutableSet -/
def k20 : Class := { plain "java/util/ImmutableCollections$AbstractImmutableSet" (some 19) with
  accessFlags := 1056
  interfaces := #[15]
  cf := some (fileOf pool20 16 #[.nestHost 61] #[{ accessFlags := 0, nameIndex := 5, descriptorIndex := 6, attributes := #[] }] 1056 2 #[7] #[])
  fields := #[]
  methods := #[k20m0]
  instanceTypes := #[]
  staticTypes := #[]
  resolved := Array.replicate 66 none
  statics := none }

def pool21 : Array CpInfo := pool [(1, .class_ 2), (0, u "java/util/ImmutableCollections"), (1, .class_ 6), (1, u "java/util/ImmutableCollections$AbstractImmutableSet"), (3, .class_ 12), (1, u "java/util/ImmutableCollections$SetN"), (0, u "size"), (0, u "I"), (4, u "elements"), (0, u "[Ljava/lang/Object;"), (86, .class_ 108), (0, u "java/io/Serializable")] 59

/-- java/util/ImmutableCollections$SetN -/
def k21 : Class := { plain "java/util/ImmutableCollections$SetN" (some 20) with
  accessFlags := 48
  interfaces := #[2]
  cf := some (fileOf pool21 10 #[.nestHost 1] #[] 48 4 #[107] #[{ accessFlags := 16, nameIndex := 19, descriptorIndex := 20, attributes := #[] }, { accessFlags := 16, nameIndex := 13, descriptorIndex := 14, attributes := #[] }])
  fields := #[{ name := "elements", type := (.array (.object "java/lang/Object")), accessFlags := 16, slot := 0, constantValue := 0 }, { name := "size", type := .int, accessFlags := 16, slot := 1, constantValue := 0 }]
  methods := #[]
  instanceTypes := #[(.array (.object "java/lang/Object")), .int]
  staticTypes := #[]
  resolved := Array.replicate 168 none
  statics := none }

def pool22 : Array CpInfo := pool [(2, .class_ 4), (1, u "java/lang/Object"), (0, u "<init>"), (0, u "()V"), (1, .class_ 10), (1, u "java/util/AbstractMap"), (42, .class_ 54), (0, u "java/util/Map"), (9, u "keySet"), (0, u "Ljava/util/Set;"), (0, .class_ 67), (0, u "java/util/AbstractMap$1"), (5, u "values"), (0, u "Ljava/util/Collection;"), (0, .class_ 76), (0, u "java/util/AbstractMap$2"), (104, .class_ 182), (0, u "java/util/AbstractMap$ViewCollection"), (0, .class_ 184), (0, u "java/util/AbstractMap$SimpleImmutableEntry"), (0, .class_ 186), (0, u "java/util/AbstractMap$SimpleEntry"), (0, .class_ 188), (0, u "java/util/AbstractMap$2$1"), (0, .class_ 190), (0, u "java/util/AbstractMap$1$1")] 5

def k22m0 : Method := { name := "<init>", desc := "()V", sig := { parameters := [], returnType := none }, accessFlags := 4, code := none }
/-- java/util/AbstractMap -/
def k22 : Class := { plain "java/util/AbstractMap" (some 0) with
  accessFlags := 1057
  interfaces := #[17]
  cf := some (fileOf pool22 8 #[.nestMembers #[181, 183, 185, 75, 187, 66, 189]] #[{ accessFlags := 4, nameIndex := 5, descriptorIndex := 6, attributes := #[] }] 1057 2 #[53] #[{ accessFlags := 128, nameIndex := 64, descriptorIndex := 65, attributes := #[] }, { accessFlags := 128, nameIndex := 73, descriptorIndex := 74, attributes := #[] }])
  fields := #[{ name := "keySet", type := (.object "java/util/Set"), accessFlags := 128, slot := 0, constantValue := 0 }, { name := "values", type := (.object "java/util/Collection"), accessFlags := 128, slot := 1, constantValue := 0 }]
  methods := #[k22m0]
  instanceTypes := #[(.object "java/util/Set"), (.object "java/util/Collection")]
  staticTypes := #[]
  resolved := Array.replicate 196 none
  statics := none }

def pool23 : Array CpInfo := pool [(2, .class_ 4), (1, u "java/util/AbstractMap"), (0, u "<init>"), (0, u "()V"), (1, .class_ 10), (1, u "java/util/ImmutableCollections"), (3, .class_ 16), (1, u "java/util/ImmutableCollections$AbstractImmutableMap"), (2, .class_ 20), (0, u "java/io/Serializable")] 66

def k23m0 : Method := { name := "<init>", desc := "()V", sig := { parameters := [], returnType := none }, accessFlags := 0, code := none }
/-- java/util/ImmutableCollections$AbstractImmutableMap -/
def k23 : Class := { plain "java/util/ImmutableCollections$AbstractImmutableMap" (some 22) with
  accessFlags := 1056
  interfaces := #[2]
  cf := some (fileOf pool23 14 #[.nestHost 8] #[{ accessFlags := 0, nameIndex := 5, descriptorIndex := 6, attributes := #[] }] 1056 2 #[19] #[])
  fields := #[]
  methods := #[k23m0]
  instanceTypes := #[(.object "java/util/Set"), (.object "java/util/Collection")]
  staticTypes := #[]
  resolved := Array.replicate 87 none
  statics := none }

def pool24 : Array CpInfo := pool [(1, .class_ 2), (0, u "java/util/ImmutableCollections"), (1, .class_ 6), (1, u "java/util/ImmutableCollections$AbstractImmutableMap"), (10, .class_ 19), (1, u "java/util/ImmutableCollections$MapN"), (0, u "size"), (0, u "I"), (4, u "table"), (0, u "[Ljava/lang/Object;")] 121

/-- java/util/ImmutableCollections$MapN -/
def k24 : Class := { plain "java/util/ImmutableCollections$MapN" (some 23) with
  accessFlags := 48
  interfaces := #[]
  cf := some (fileOf pool24 17 #[.nestHost 1] #[] 48 4 #[] #[{ accessFlags := 16, nameIndex := 26, descriptorIndex := 27, attributes := #[] }, { accessFlags := 16, nameIndex := 20, descriptorIndex := 21, attributes := #[] }])
  fields := #[{ name := "table", type := (.array (.object "java/lang/Object")), accessFlags := 16, slot := 2, constantValue := 0 }, { name := "size", type := .int, accessFlags := 16, slot := 3, constantValue := 0 }]
  methods := #[]
  instanceTypes := #[(.object "java/util/Set"), (.object "java/util/Collection"), (.array (.object "java/lang/Object")), .int]
  staticTypes := #[]
  resolved := Array.replicate 149 none
  statics := none }

def pool25 : Array CpInfo := pool [(4, .class_ 6), (1, u "java/lang/Object"), (0, u "<init>"), (0, u "()V"), (5, .class_ 16), (1, u "java/lang/StringLatin1"), (104, u "$assertionsDisabled"), (0, u "Z"), (98, .class_ 223), (1, u "java/lang/StringLatin1$LinesSpliterator"), (166, .class_ 391), (0, u "java/lang/StringLatin1$CharsSpliterator")] 3

def k25m0 : Method := { name := "<init>", desc := "()V", sig := { parameters := [], returnType := none }, accessFlags := 0, code := none }
/-- java/lang/StringLatin1 -/
def k25 : Class := { plain "java/lang/StringLatin1" (some 0) with
  accessFlags := 48
  interfaces := #[]
  cf := some (fileOf pool25 14 #[.nestMembers #[390, 221]] #[{ accessFlags := 0, nameIndex := 7, descriptorIndex := 8, attributes := #[] }] 48 4 #[] #[{ accessFlags := 4120, nameIndex := 121, descriptorIndex := 122, attributes := #[] }])
  fields := #[{ name := "$assertionsDisabled", type := .boolean, accessFlags := 4120, slot := 0, constantValue := 0 }]
  methods := #[k25m0]
  instanceTypes := #[]
  staticTypes := #[.boolean]
  resolved := Array.replicate 395 none
  statics := none }

def pool26 : Array CpInfo := pool [(2, .class_ 4), (1, u "java/lang/Object"), (0, u "<init>"), (0, u "()V"), (17, .class_ 26), (1, u "jdk/internal/util/Preconditions"), (28, .class_ 56), (0, u "jdk/internal/util/Preconditions$4"), (57, .class_ 115), (0, u "jdk/internal/util/Preconditions$1"), (7, u "SIOOBE_FORMATTER"), (0, u "Ljava/util/function/BiFunction;"), (0, .class_ 126), (0, u "jdk/internal/util/Preconditions$2"), (3, u "AIOOBE_FORMATTER"), (0, .class_ 132), (0, u "jdk/internal/util/Preconditions$3"), (3, u "IOOBE_FORMATTER")] 57

def k26m0 : Method := { name := "<init>", desc := "()V", sig := { parameters := [], returnType := none }, accessFlags := 1, code := none }
/-- jdk/internal/util/Preconditions -/
def k26 : Class := { plain "jdk/internal/util/Preconditions" (some 0) with
  accessFlags := 33
  interfaces := #[]
  cf := some (fileOf pool26 24 #[.nestMembers #[55, 131, 125, 114]] #[{ accessFlags := 1, nameIndex := 5, descriptorIndex := 6, attributes := #[] }] 33 2 #[] #[{ accessFlags := 25, nameIndex := 123, descriptorIndex := 124, attributes := #[] }, { accessFlags := 25, nameIndex := 130, descriptorIndex := 124, attributes := #[] }, { accessFlags := 25, nameIndex := 136, descriptorIndex := 124, attributes := #[] }])
  fields := #[{ name := "SIOOBE_FORMATTER", type := (.object "java/util/function/BiFunction"), accessFlags := 25, slot := 0, constantValue := 0 }, { name := "AIOOBE_FORMATTER", type := (.object "java/util/function/BiFunction"), accessFlags := 25, slot := 1, constantValue := 0 }, { name := "IOOBE_FORMATTER", type := (.object "java/util/function/BiFunction"), accessFlags := 25, slot := 2, constantValue := 0 }]
  methods := #[k26m0]
  instanceTypes := #[]
  staticTypes := #[(.object "java/util/function/BiFunction"), (.object "java/util/function/BiFunction"), (.object "java/util/function/BiFunction")]
  resolved := Array.replicate 194 none
  statics := some 2 }

def pool27 : Array CpInfo := pool [(9, u "<init>"), (6, .class_ 18), (1, u "java/lang/Object"), (0, u "()V"), (1, .class_ 23), (1, u "jdk/internal/util/ArraysSupport"), (0, u "LOG2_ARRAY_LONG_INDEX_SCALE"), (0, u "I"), (2, u "U"), (0, u "Ljdk/internal/misc/Unsafe;"), (8, u "BIG_ENDIAN"), (0, u "Z"), (8, u "LOG2_BYTE_BIT_SIZE"), (4, u "LOG2_ARRAY_INT_INDEX_SCALE"), (54, u "JLA"), (0, u "Ljdk/internal/access/JavaLangAccess;"), (11, u "LOG2_ARRAY_BOOLEAN_INDEX_SCALE"), (9, u "LOG2_ARRAY_BYTE_INDEX_SCALE"), (5, u "LOG2_ARRAY_CHAR_INDEX_SCALE"), (5, u "LOG2_ARRAY_SHORT_INDEX_SCALE"), (18, u "LOG2_ARRAY_FLOAT_INDEX_SCALE"), (24, u "LOG2_ARRAY_DOUBLE_INDEX_SCALE"), (89, u "T_BOOLEAN"), (2, u "T_CHAR"), (1, u "T_FLOAT"), (1, u "T_DOUBLE"), (1, u "T_BYTE"), (1, u "T_SHORT"), (1, u "T_INT"), (1, u "T_LONG"), (1, u "SOFT_MAX_ARRAY_LENGTH")] 83

def k27m0 : Method := { name := "<init>", desc := "()V", sig := { parameters := [], returnType := none }, accessFlags := 2, code := none }
/-- jdk/internal/util/ArraysSupport -/
def k27 : Class := { plain "jdk/internal/util/ArraysSupport" (some 0) with
  accessFlags := 33
  interfaces := #[]
  cf := some (fileOf pool27 21 #[] #[{ accessFlags := 2, nameIndex := 9, descriptorIndex := 19, attributes := #[] }] 33 16 #[] #[{ accessFlags := 24, nameIndex := 28, descriptorIndex := 29, attributes := #[] }, { accessFlags := 26, nameIndex := 38, descriptorIndex := 39, attributes := #[] }, { accessFlags := 25, nameIndex := 121, descriptorIndex := 25, attributes := #[] }, { accessFlags := 25, nameIndex := 131, descriptorIndex := 25, attributes := #[] }, { accessFlags := 25, nameIndex := 137, descriptorIndex := 25, attributes := #[] }, { accessFlags := 25, nameIndex := 143, descriptorIndex := 25, attributes := #[] }, { accessFlags := 25, nameIndex := 53, descriptorIndex := 25, attributes := #[] }, { accessFlags := 25, nameIndex := 24, descriptorIndex := 25, attributes := #[] }, { accessFlags := 25, nameIndex := 162, descriptorIndex := 25, attributes := #[] }, { accessFlags := 25, nameIndex := 187, descriptorIndex := 25, attributes := #[] }, { accessFlags := 26, nameIndex := 48, descriptorIndex := 25, attributes := #[] }, { accessFlags := 25, nameIndex := 277, descriptorIndex := 25, attributes := #[] }, { accessFlags := 25, nameIndex := 280, descriptorIndex := 25, attributes := #[] }, { accessFlags := 25, nameIndex := 282, descriptorIndex := 25, attributes := #[] }, { accessFlags := 25, nameIndex := 284, descriptorIndex := 25, attributes := #[] }, { accessFlags := 25, nameIndex := 286, descriptorIndex := 25, attributes := #[] }, { accessFlags := 25, nameIndex := 288, descriptorIndex := 25, attributes := #[] }, { accessFlags := 25, nameIndex := 290, descriptorIndex := 25, attributes := #[] }, { accessFlags := 25, nameIndex := 292, descriptorIndex := 25, attributes := #[] }, { accessFlags := 26, nameIndex := 108, descriptorIndex := 109, attributes := #[] }, { accessFlags := 25, nameIndex := 294, descriptorIndex := 25, attributes := #[] }])
  fields := #[{ name := "U", type := (.object "jdk/internal/misc/Unsafe"), accessFlags := 24, slot := 0, constantValue := 0 }, { name := "BIG_ENDIAN", type := .boolean, accessFlags := 26, slot := 1, constantValue := 0 }, { name := "LOG2_ARRAY_BOOLEAN_INDEX_SCALE", type := .int, accessFlags := 25, slot := 2, constantValue := 0 }, { name := "LOG2_ARRAY_BYTE_INDEX_SCALE", type := .int, accessFlags := 25, slot := 3, constantValue := 0 }, { name := "LOG2_ARRAY_CHAR_INDEX_SCALE", type := .int, accessFlags := 25, slot := 4, constantValue := 0 }, { name := "LOG2_ARRAY_SHORT_INDEX_SCALE", type := .int, accessFlags := 25, slot := 5, constantValue := 0 }, { name := "LOG2_ARRAY_INT_INDEX_SCALE", type := .int, accessFlags := 25, slot := 6, constantValue := 0 }, { name := "LOG2_ARRAY_LONG_INDEX_SCALE", type := .int, accessFlags := 25, slot := 7, constantValue := 0 }, { name := "LOG2_ARRAY_FLOAT_INDEX_SCALE", type := .int, accessFlags := 25, slot := 8, constantValue := 0 }, { name := "LOG2_ARRAY_DOUBLE_INDEX_SCALE", type := .int, accessFlags := 25, slot := 9, constantValue := 0 }, { name := "LOG2_BYTE_BIT_SIZE", type := .int, accessFlags := 26, slot := 10, constantValue := 0 }, { name := "T_BOOLEAN", type := .int, accessFlags := 25, slot := 11, constantValue := 0 }, { name := "T_CHAR", type := .int, accessFlags := 25, slot := 12, constantValue := 0 }, { name := "T_FLOAT", type := .int, accessFlags := 25, slot := 13, constantValue := 0 }, { name := "T_DOUBLE", type := .int, accessFlags := 25, slot := 14, constantValue := 0 }, { name := "T_BYTE", type := .int, accessFlags := 25, slot := 15, constantValue := 0 }, { name := "T_SHORT", type := .int, accessFlags := 25, slot := 16, constantValue := 0 }, { name := "T_INT", type := .int, accessFlags := 25, slot := 17, constantValue := 0 }, { name := "T_LONG", type := .int, accessFlags := 25, slot := 18, constantValue := 0 }, { name := "JLA", type := (.object "jdk/internal/access/JavaLangAccess"), accessFlags := 26, slot := 19, constantValue := 0 }, { name := "SOFT_MAX_ARRAY_LENGTH", type := .int, accessFlags := 25, slot := 20, constantValue := 0 }]
  methods := #[k27m0]
  instanceTypes := #[]
  staticTypes := #[(.object "jdk/internal/misc/Unsafe"), .boolean, .int, .int, .int, .int, .int, .int, .int, .int, .int, .int, .int, .int, .int, .int, .int, .int, .int, (.object "jdk/internal/access/JavaLangAccess"), .int]
  resolved := Array.replicate 378 none
  statics := none }

def pool28 : Array CpInfo := pool [(1, u "java/lang/Cloneable"), (0, .class_ 1), (0, u "java/lang/Object"), (0, .class_ 3)] 3

/-- java/lang/Cloneable -/
def k28 : Class := { plain "java/lang/Cloneable" (some 0) with
  accessFlags := 1537
  interfaces := #[]
  cf := some (fileOf pool28 2 #[] #[] 1537 4 #[] #[])
  fields := #[]
  methods := #[]
  instanceTypes := #[]
  staticTypes := #[]
  resolved := Array.replicate 8 none
  statics := none }

/-- the primitive byte -/
def k29 : Class := { plain "byte" none with kind := .primitive 'B', accessFlags := 0x411 }
/-- [B -/
def k30 : Class := { plain "[B" (some 0) with kind := .array 29 .byte, interfaces := #[28, 2], accessFlags := 1041 }

/-- the primitive char -/
def k31 : Class := { plain "char" none with kind := .primitive 'C', accessFlags := 0x411 }
/-- [C -/
def k32 : Class := { plain "[C" (some 0) with kind := .array 31 .char, interfaces := #[28, 2], accessFlags := 1041 }

/-- the primitive int -/
def k33 : Class := { plain "int" none with kind := .primitive 'I', accessFlags := 0x411 }
/-- [I -/
def k34 : Class := { plain "[I" (some 0) with kind := .array 33 .int, interfaces := #[28, 2], accessFlags := 1041 }

/-- [Ljava/lang/Object; -/
def k35 : Class := { plain "[Ljava/lang/Object;" (some 0) with kind := .array 0 (.object "java/lang/Object"), interfaces := #[28, 2], accessFlags := 1041 }

def heap : Heap := #[{ cls := 7, slots := #[.long 0, .int 1, .null, .int 0, .null, .int 0, .int 0], vm := .statics 7 },
  { cls := 16, slots := #[.long 0, .int 0, .null, .null, .null, .null, .ref 5, .ref 6, .int 0, .int 0], vm := .statics 16 },
  { cls := 26, slots := #[.null, .null, .null], vm := .statics 26 },
  { cls := 35, slots := #[], vm := .none },
  { cls := 35, slots := #[], vm := .none },
  { cls := 21, slots := #[.ref 3, .int 0], vm := .none },
  { cls := 24, slots := #[.null, .null, .ref 4, .int 0], vm := .none }]
def classes : Array Class := #[k0, k1, k2, k3, k4, k5, k6, k7, k8, k9, k10, k11, k12, k13, k14, k15, k16, k17, k18, k19, k20, k21, k22, k23, k24, k25, k26, k27, k28, k29, k30, k31, k32, k33, k34, k35]
def interned : List (Array UInt16 × Addr) := []
def slotsUsed : Nat := 26
def theMethod : MethodId := ⟨1, 1⟩
def args0 : Array Value := #[.int 5, .int 6, .int 3, .int 66, .int 67, .int 7]
def aboutOver (below : List Frame) : State where
  vm := { classes := classes, interned := interned.toArray }
  heap := heap
  slotsUsed := slotsUsed
  threads := #[{ frames := .invoking theMethod args0 :: below }]
def below0 : List Frame := [.native { method := ⟨0, 0⟩, args := #[] }]
def about1 : State := aboutOver below0
def p0 : Program := .bare "" "" ""
def e0 : Env := launch0.env 0 0 0
theorem w_frames : about1.frames = Frame.invoking theMethod args0 :: below0 := rfl
set_option maxRecDepth 65536 in
theorem w_args : argsFit about1.vm theMethod args0 = true := by decide +kernel
set_option maxRecDepth 65536 in
theorem w_heap : heapFits about1 = true := by decide +kernel
set_option maxRecDepth 65536 in
theorem w_runnable : about1.curStatus? = some .runnable := by decide +kernel
set_option maxRecDepth 65536 in
theorem w_alone : about1.alone = true := by decide +kernel
set_option maxRecDepth 65536 in
theorem w_named : about1.methodNamed? x = some theMethod := by decide +kernel
set_option maxRecDepth 65536 in
theorem w_hears : about1.hears theMethod below0 = true := by decide +kernel
set_option maxRecDepth 65536 in
theorem w_ripe : about1.ripe theMethod args0 below0 = true := by decide +kernel
theorem w_running : about1.status = .running := rfl
set_option maxRecDepth 65536 in
theorem w_room : about1.hasRoom e0.platform room_1 = true :=
  launch0.hasRoom_least _ room_1 (by decide +kernel) (by decide +kernel) (by decide +kernel) (by decide +kernel) (by decide +kernel) (by decide +kernel)
theorem allAtoms_all (ts : List Jvm.Cond) (a : Array Jvm.Value) (st : Jvm.State) : (allAtoms ts).before a st = ts.all (fun c => c.before a st) := by
  induction ts with
  | nil => rfl
  | cons c t ih =>
    show (Jvm.Cond.and c (allAtoms t)).before a st = _
    rw [Jvm.Cond.before_and, ih, List.all_cons]
def words1 : List Jvm.Cond := Jvm.Cond.code x code maxLocals ret :: tables_1
/-- a 'code' word, met by the world's own term for the bytes: nothing is compared byte by byte -/
theorem code_word {y : MethodName} {bytes : ByteArray} {mx : Nat} {rt : Option FieldType} {a : Array Value} {s : State} {m : MethodId} {meth : Method} {c : Code} (h1 : s.methodNamed? y = some m) (h2 : s.vm.method? m = some meth) (h3 : meth.code = some c) (h4 : c.code = bytes)
    (h5 : (c.maxLocals == mx && c.exceptionTable.isEmpty && decide (c.maxStack ≤ mostOperands) && decide (meth.sig.returnType = rt) && !meth.locks && decide (parseMethodDescriptor y.desc = some meth.sig)) = true) : (Jvm.Cond.code y bytes mx rt).before a s = true := by
  simp only [Bool.and_eq_true, beq_iff_eq, Bool.not_eq_true', decide_eq_true_eq] at h5
  obtain ⟨⟨⟨⟨⟨g1, g2⟩, g3⟩, g4⟩, g5⟩, g6⟩ := h5
  simp [Cond.before, Cond.holds, Cond.value, h1, h2, h3, h4, g1, g2, g3, g4, g5, g6]
def isCode : Jvm.Cond → Bool
  | .code _ _ _ _ => true
  | _ => false
theorem all_split {L : List Jvm.Cond} {P : Jvm.Cond → Bool} (h1 : L.all (fun c => isCode c || P c) = true) (h2 : ∀ c ∈ L.filter isCode, P c = true) : L.all P = true := by
  refine List.all_eq_true.mpr fun c hc => ?_
  have h := List.all_eq_true.mp h1 c hc
  rcases Bool.eq_false_or_eq_true (isCode c) with hi | hi
  · exact h2 c (List.mem_filter.mpr ⟨hc, hi⟩)
  · simpa [hi] using h
set_option maxRecDepth 65536 in
theorem w_c0 : (Jvm.Cond.code x code maxLocals ret).before args0 about1 = true := code_word (m := ⟨1, 1⟩) (meth := k1m1) (c := k1c1) (by decide +kernel) rfl rfl rfl (by decide +kernel)
set_option maxRecDepth 65536 in
theorem w_c1 : (Jvm.Cond.code ({ cls := "java/lang/String", name := "<init>", desc := "([C)V" } : Jvm.MethodName) jdk_42_method_3_code (2 : Nat) (Option.none : Option Jvm.ClassFile.FieldType)).before args0 about1 = true := code_word (m := ⟨7, 1⟩) (meth := k7m1) (c := k7c1) (by decide +kernel) rfl rfl rfl (by decide +kernel)
set_option maxRecDepth 65536 in
theorem w_c2 : (Jvm.Cond.code ({ cls := "java/lang/String", name := "<init>", desc := "([CIILjava/lang/Void;)V" } : Jvm.MethodName) jdk_42_method_149_code (6 : Nat) (Option.none : Option Jvm.ClassFile.FieldType)).before args0 about1 = true := code_word (m := ⟨7, 3⟩) (meth := k7m3) (c := k7c3) (by decide +kernel) rfl rfl rfl (by decide +kernel)
set_option maxRecDepth 65536 in
theorem w_c3 : (Jvm.Cond.code ({ cls := "java/lang/Object", name := "<init>", desc := "()V" } : Jvm.MethodName) object_method_1_code (1 : Nat) (Option.none : Option Jvm.ClassFile.FieldType)).before args0 about1 = true := code_word (m := ⟨0, 0⟩) (meth := k0m0) (c := k0c0) (by decide +kernel) rfl rfl rfl (by decide +kernel)
set_option maxRecDepth 65536 in
theorem w_c4 : (Jvm.Cond.code ({ cls := "java/lang/StringUTF16", name := "compress", desc := "([CII)[B" } : Jvm.MethodName) jdk_52_method_16_code (6 : Nat) (Option.some (Jvm.ClassFile.FieldType.array Jvm.ClassFile.FieldType.byte))).before args0 about1 = true := code_word (m := ⟨8, 2⟩) (meth := k8m2) (c := k8c2) (by decide +kernel) rfl rfl rfl (by decide +kernel)
set_option maxRecDepth 65536 in
theorem w_c5 : (Jvm.Cond.code ({ cls := "java/lang/StringUTF16", name := "compress", desc := "([CI[BII)I" } : Jvm.MethodName) jdk_52_method_21_code (7 : Nat) (Option.some Jvm.ClassFile.FieldType.int)).before args0 about1 = true := code_word (m := ⟨8, 3⟩) (meth := k8m3) (c := k8c3) (by decide +kernel) rfl rfl rfl (by decide +kernel)
set_option maxRecDepth 65536 in
theorem w_c6 : (Jvm.Cond.code ({ cls := "java/lang/StringUTF16", name := "coderFromArrayLen", desc := "([BI)B" } : Jvm.MethodName) jdk_52_method_15_code (2 : Nat) (Option.some Jvm.ClassFile.FieldType.byte)).before args0 about1 = true := code_word (m := ⟨8, 1⟩) (meth := k8m1) (c := k8c1) (by decide +kernel) rfl rfl rfl (by decide +kernel)
set_option maxRecDepth 65536 in
theorem w_c7 : (Jvm.Cond.code ({ cls := "com/example/overweave/overweave/model/Position", name := "<init>", desc := "(Ljava/lang/String;II)V" } : Jvm.MethodName) prog_46_method_1_code (4 : Nat) (Option.none : Option Jvm.ClassFile.FieldType)).before args0 about1 = true := code_word (m := ⟨10, 0⟩) (meth := k10m0) (c := k10c0) (by decide +kernel) rfl rfl rfl (by decide +kernel)
set_option maxRecDepth 65536 in
theorem w_c8 : (Jvm.Cond.code ({ cls := "java/lang/Record", name := "<init>", desc := "()V" } : Jvm.MethodName) jdk_30_method_1_code (1 : Nat) (Option.none : Option Jvm.ClassFile.FieldType)).before args0 about1 = true := code_word (m := ⟨9, 0⟩) (meth := k9m0) (c := k9c0) (by decide +kernel) rfl rfl rfl (by decide +kernel)
set_option maxRecDepth 65536 in
theorem w_c9 : (Jvm.Cond.code ({ cls := "java/util/Objects", name := "requireNonNull", desc := "(Ljava/lang/Object;Ljava/lang/String;)Ljava/lang/Object;" } : Jvm.MethodName) jdk_31_method_11_code (2 : Nat) (Option.some (Jvm.ClassFile.FieldType.object "java/lang/Object"))).before args0 about1 = true := code_word (m := ⟨11, 1⟩) (meth := k11m1) (c := k11c1) (by decide +kernel) rfl rfl rfl (by decide +kernel)
set_option maxRecDepth 65536 in
theorem w_c10 : (Jvm.Cond.code ({ cls := "java/util/Set", name := "of", desc := "()Ljava/util/Set;" } : Jvm.MethodName) jdk_96_method_17_code (0 : Nat) (Option.some (Jvm.ClassFile.FieldType.object "java/util/Set"))).before args0 about1 = true := code_word (m := ⟨15, 0⟩) (meth := k15m0) (c := k15c0) (by decide +kernel) rfl rfl rfl (by decide +kernel)
set_option maxRecDepth 65536 in
theorem w_c11 : (Jvm.Cond.code ({ cls := "java/util/Map", name := "of", desc := "()Ljava/util/Map;" } : Jvm.MethodName) jdk_72_method_26_code (0 : Nat) (Option.some (Jvm.ClassFile.FieldType.object "java/util/Map"))).before args0 about1 = true := code_word (m := ⟨17, 0⟩) (meth := k17m0) (c := k17c0) (by decide +kernel) rfl rfl rfl (by decide +kernel)
set_option maxRecDepth 65536 in
theorem w_c12 : (Jvm.Cond.code ({ cls := "com/example/overweave/overweave/merge/SdkLevels$App", name := "<init>", desc := "(Lcom/example/overweave/overweave/model/Position;Lcom/example/overweave/overweave/model/Position;Lcom/example/overweave/overweave/model/Attribute;Lcom/example/overweave/overweave/model/Attribute;Ljava/util/Set;Ljava/util/Map;)V" } : Jvm.MethodName) prog_39_method_1_code (7 : Nat) (Option.none : Option Jvm.ClassFile.FieldType)).before args0 about1 = true := code_word (m := ⟨12, 0⟩) (meth := k12m0) (c := k12c0) (by decide +kernel) rfl rfl rfl (by decide +kernel)
set_option maxRecDepth 65536 in
theorem w_c13 : (Jvm.Cond.code ({ cls := "java/util/Set", name := "copyOf", desc := "(Ljava/util/Collection;)Ljava/util/Set;" } : Jvm.MethodName) jdk_96_method_29_code (1 : Nat) (Option.some (Jvm.ClassFile.FieldType.object "java/util/Set"))).before args0 about1 = true := code_word (m := ⟨15, 1⟩) (meth := k15m1) (c := k15c1) (by decide +kernel) rfl rfl rfl (by decide +kernel)
set_option maxRecDepth 65536 in
theorem w_c14 : (Jvm.Cond.code ({ cls := "java/util/Map", name := "copyOf", desc := "(Ljava/util/Map;)Ljava/util/Map;" } : Jvm.MethodName) jdk_72_method_39_code (1 : Nat) (Option.some (Jvm.ClassFile.FieldType.object "java/util/Map"))).before args0 about1 = true := code_word (m := ⟨17, 1⟩) (meth := k17m1) (c := k17c1) (by decide +kernel) rfl rfl rfl (by decide +kernel)
set_option maxRecDepth 65536 in
theorem w_c15 : (Jvm.Cond.code ({ cls := "com/example/overweave/overweave/merge/SdkLevels$App", name := "levelsPosition", desc := "()Lcom/example/overweave/overweave/model/Position;" } : Jvm.MethodName) prog_39_method_6_code (1 : Nat) (Option.some (Jvm.ClassFile.FieldType.object "com/example/overweave/overweave/model/Position"))).before args0 about1 = true := code_word (m := ⟨12, 1⟩) (meth := k12m1) (c := k12c1) (by decide +kernel) rfl rfl rfl (by decide +kernel)
set_option maxRecDepth 65536 in
theorem w_c16 : (Jvm.Cond.code ({ cls := "com/example/overweave/overweave/model/Position", name := "file", desc := "()Ljava/lang/String;" } : Jvm.MethodName) prog_46_method_6_code (1 : Nat) (Option.some (Jvm.ClassFile.FieldType.object "java/lang/String"))).before args0 about1 = true := code_word (m := ⟨10, 1⟩) (meth := k10m1) (c := k10c1) (by decide +kernel) rfl rfl rfl (by decide +kernel)
set_option maxRecDepth 65536 in
theorem w_c17 : (Jvm.Cond.code ({ cls := "java/lang/String", name := "equals", desc := "(Ljava/lang/Object;)Z" } : Jvm.MethodName) jdk_42_method_66_code (3 : Nat) (Option.some Jvm.ClassFile.FieldType.boolean)).before args0 about1 = true := code_word (m := ⟨7, 2⟩) (meth := k7m2) (c := k7c2) (by decide +kernel) rfl rfl rfl (by decide +kernel)
set_option maxRecDepth 65536 in
theorem w_c18 : (Jvm.Cond.code ({ cls := "com/example/overweave/overweave/model/Position", name := "line", desc := "()I" } : Jvm.MethodName) prog_46_method_7_code (1 : Nat) (Option.some Jvm.ClassFile.FieldType.int)).before args0 about1 = true := code_word (m := ⟨10, 2⟩) (meth := k10m2) (c := k10c2) (by decide +kernel) rfl rfl rfl (by decide +kernel)
set_option maxRecDepth 65536 in
theorem w_c19 : (Jvm.Cond.code ({ cls := "com/example/overweave/overweave/model/Position", name := "column", desc := "()I" } : Jvm.MethodName) prog_46_method_8_code (1 : Nat) (Option.some Jvm.ClassFile.FieldType.int)).before args0 about1 = true := code_word (m := ⟨10, 3⟩) (meth := k10m3) (c := k10c3) (by decide +kernel) rfl rfl rfl (by decide +kernel)
def codes1 : List Jvm.Cond := [Jvm.Cond.code x code maxLocals ret, Jvm.Cond.code ({ cls := "java/lang/String", name := "<init>", desc := "([C)V" } : Jvm.MethodName) jdk_42_method_3_code (2 : Nat) (Option.none : Option Jvm.ClassFile.FieldType), Jvm.Cond.code ({ cls := "java/lang/String", name := "<init>", desc := "([CIILjava/lang/Void;)V" } : Jvm.MethodName) jdk_42_method_149_code (6 : Nat) (Option.none : Option Jvm.ClassFile.FieldType), Jvm.Cond.code ({ cls := "java/lang/Object", name := "<init>", desc := "()V" } : Jvm.MethodName) object_method_1_code (1 : Nat) (Option.none : Option Jvm.ClassFile.FieldType), Jvm.Cond.code ({ cls := "java/lang/StringUTF16", name := "compress", desc := "([CII)[B" } : Jvm.MethodName) jdk_52_method_16_code (6 : Nat) (Option.some (Jvm.ClassFile.FieldType.array Jvm.ClassFile.FieldType.byte)), Jvm.Cond.code ({ cls := "java/lang/StringUTF16", name := "compress", desc := "([CI[BII)I" } : Jvm.MethodName) jdk_52_method_21_code (7 : Nat) (Option.some Jvm.ClassFile.FieldType.int), Jvm.Cond.code ({ cls := "java/lang/StringUTF16", name := "coderFromArrayLen", desc := "([BI)B" } : Jvm.MethodName) jdk_52_method_15_code (2 : Nat) (Option.some Jvm.ClassFile.FieldType.byte), Jvm.Cond.code ({ cls := "com/example/overweave/overweave/model/Position", name := "<init>", desc := "(Ljava/lang/String;II)V" } : Jvm.MethodName) prog_46_method_1_code (4 : Nat) (Option.none : Option Jvm.ClassFile.FieldType), Jvm.Cond.code ({ cls := "java/lang/Record", name := "<init>", desc := "()V" } : Jvm.MethodName) jdk_30_method_1_code (1 : Nat) (Option.none : Option Jvm.ClassFile.FieldType), Jvm.Cond.code ({ cls := "java/util/Objects", name := "requireNonNull", desc := "(Ljava/lang/Object;Ljava/lang/String;)Ljava/lang/Object;" } : Jvm.MethodName) jdk_31_method_11_code (2 : Nat) (Option.some (Jvm.ClassFile.FieldType.object "java/lang/Object")), Jvm.Cond.code ({ cls := "java/util/Set", name := "of", desc := "()Ljava/util/Set;" } : Jvm.MethodName) jdk_96_method_17_code (0 : Nat) (Option.some (Jvm.ClassFile.FieldType.object "java/util/Set")), Jvm.Cond.code ({ cls := "java/util/Map", name := "of", desc := "()Ljava/util/Map;" } : Jvm.MethodName) jdk_72_method_26_code (0 : Nat) (Option.some (Jvm.ClassFile.FieldType.object "java/util/Map")), Jvm.Cond.code ({ cls := "com/example/overweave/overweave/merge/SdkLevels$App", name := "<init>", desc := "(Lcom/example/overweave/overweave/model/Position;Lcom/example/overweave/overweave/model/Position;Lcom/example/overweave/overweave/model/Attribute;Lcom/example/overweave/overweave/model/Attribute;Ljava/util/Set;Ljava/util/Map;)V" } : Jvm.MethodName) prog_39_method_1_code (7 : Nat) (Option.none : Option Jvm.ClassFile.FieldType), Jvm.Cond.code ({ cls := "java/util/Set", name := "copyOf", desc := "(Ljava/util/Collection;)Ljava/util/Set;" } : Jvm.MethodName) jdk_96_method_29_code (1 : Nat) (Option.some (Jvm.ClassFile.FieldType.object "java/util/Set")), Jvm.Cond.code ({ cls := "java/util/Map", name := "copyOf", desc := "(Ljava/util/Map;)Ljava/util/Map;" } : Jvm.MethodName) jdk_72_method_39_code (1 : Nat) (Option.some (Jvm.ClassFile.FieldType.object "java/util/Map")), Jvm.Cond.code ({ cls := "com/example/overweave/overweave/merge/SdkLevels$App", name := "levelsPosition", desc := "()Lcom/example/overweave/overweave/model/Position;" } : Jvm.MethodName) prog_39_method_6_code (1 : Nat) (Option.some (Jvm.ClassFile.FieldType.object "com/example/overweave/overweave/model/Position")), Jvm.Cond.code ({ cls := "com/example/overweave/overweave/model/Position", name := "file", desc := "()Ljava/lang/String;" } : Jvm.MethodName) prog_46_method_6_code (1 : Nat) (Option.some (Jvm.ClassFile.FieldType.object "java/lang/String")), Jvm.Cond.code ({ cls := "java/lang/String", name := "equals", desc := "(Ljava/lang/Object;)Z" } : Jvm.MethodName) jdk_42_method_66_code (3 : Nat) (Option.some Jvm.ClassFile.FieldType.boolean), Jvm.Cond.code ({ cls := "com/example/overweave/overweave/model/Position", name := "line", desc := "()I" } : Jvm.MethodName) prog_46_method_7_code (1 : Nat) (Option.some Jvm.ClassFile.FieldType.int), Jvm.Cond.code ({ cls := "com/example/overweave/overweave/model/Position", name := "column", desc := "()I" } : Jvm.MethodName) prog_46_method_8_code (1 : Nat) (Option.some Jvm.ClassFile.FieldType.int)]
set_option maxRecDepth 65536 in
theorem codes_eq : words1.filter isCode = codes1 := rfl
theorem w_codes : ∀ c ∈ words1.filter isCode, c.before args0 about1 = true := by
  rw [codes_eq]
  intro c hc
  simp only [codes1, List.mem_cons, List.not_mem_nil, or_false] at hc
  rcases hc with rfl | rfl | rfl | rfl | rfl | rfl | rfl | rfl | rfl | rfl | rfl | rfl | rfl | rfl | rfl | rfl | rfl | rfl | rfl | rfl
  · exact w_c0
  · exact w_c1
  · exact w_c2
  · exact w_c3
  · exact w_c4
  · exact w_c5
  · exact w_c6
  · exact w_c7
  · exact w_c8
  · exact w_c9
  · exact w_c10
  · exact w_c11
  · exact w_c12
  · exact w_c13
  · exact w_c14
  · exact w_c15
  · exact w_c16
  · exact w_c17
  · exact w_c18
  · exact w_c19
set_option maxRecDepth 65536 in
theorem w_t1 : (words1.take 24).all (fun c => isCode c || c.before args0 about1) = true := by decide +kernel
set_option maxRecDepth 65536 in
theorem w_t2 : ((words1.drop 24).take 24).all (fun c => isCode c || c.before args0 about1) = true := by decide +kernel
set_option maxRecDepth 65536 in
theorem w_t3 : (((words1.drop 24).drop 24).take 24).all (fun c => isCode c || c.before args0 about1) = true := by decide +kernel
set_option maxRecDepth 65536 in
theorem w_t4 : ((((words1.drop 24).drop 24).drop 24).take 24).all (fun c => isCode c || c.before args0 about1) = true := by decide +kernel
set_option maxRecDepth 65536 in
theorem w_t5 : (((((words1.drop 24).drop 24).drop 24).drop 24).take 24).all (fun c => isCode c || c.before args0 about1) = true := by decide +kernel
set_option maxRecDepth 65536 in
theorem w_t6 : (((((words1.drop 24).drop 24).drop 24).drop 24).drop 24).all (fun c => isCode c || c.before args0 about1) = true := by decide +kernel
theorem w_tables : (allAtoms (Jvm.Cond.code x code maxLocals ret :: tables_1)).before args0 about1 = true := by
  rw [allAtoms_all]
  show words1.all (fun c => c.before args0 about1) = true
  refine all_split ?_ w_codes
  rw [← List.take_append_drop 24 words1, List.all_append, w_t1, ← List.take_append_drop 24 (words1.drop 24), List.all_append, w_t2, ← List.take_append_drop 24 ((words1.drop 24).drop 24), List.all_append, w_t3, ← List.take_append_drop 24 (((words1.drop 24).drop 24).drop 24), List.all_append, w_t4, ← List.take_append_drop 24 ((((words1.drop 24).drop 24).drop 24).drop 24), List.all_append, w_t5, w_t6]
  rfl
set_option maxRecDepth 65536 in
theorem w_rest : rest_1_c.before args0 about1 = true := by decide +kernel
set_option maxRecDepth 65536 in
theorem w_case : (Jvm.Cond.and given_1 narrow_1).before args0 about1 = true := by decide +kernel
theorem w_applies : (headSpec (Jvm.Cond.code x code maxLocals ret :: tables_1) room_1).applies x e0.platform about1 = true :=
  (Spec.applies_iff w_frames).mpr ⟨w_running, w_runnable, w_alone, w_named, w_hears, w_ripe, w_room, w_tables⟩
theorem atStart : AtStart classFile x code maxLocals ret World_1 tables_1 room_1 Calls_1 rest_1 Pre_1 launch0 p0 e0 about1 theMethod args0 below0 :=
  ⟨lists_1, trivial, launch0.admits_env _ _ _, launch0.least_env, fairChoices_fair.cas, fairChoices_fair.clock, w_frames, w_args, w_heap, w_applies, trivial, w_rest, w_case⟩
end start1
theorem witness_1 : WitnessClaimed_1 := ⟨start1.p0, start1.e0, start1.about1, start1.theMethod, start1.args0, start1.below0, start1.atStart⟩
end Jvm.Pilot.@@N@@
