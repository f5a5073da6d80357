import JvmDerived
import JvmDerived.Pilot.@@N@@Statement
import JvmDerived.Pilot.@@N@@Code
set_option linter.unusedVariables false
set_option linter.unusedSimpArgs false
namespace Jvm.RoadKit
open Sem ClassFile Op Lib Jvm.Stand Jvm.Free Jvm.LawKit
section New
variable {p : Program} {l : Launch} {e : Env} {R : Room} {s : State} {m : MethodId} {args : Array Value} {below : List Frame} {meth : Method} {c : Code} {T : State} {locs : List Loc} {cells slots : Nat}
theorem retI (X : Stand p l e R s m args below meth c T locs cells slots) (hx : p.tables.exec = Jvm.exec) {pc : Nat} {Ls : Array Slot} {z : Int32} {rest : List Value} (hret : meth.sig.returnType = some .int) (hd : decode c.code pc = .ok (.ireturn, 1)) {fs : List Frame}
    (hl : ∀ (f : JFrame) (acts : List Action), f.method = m → f.locked = none → f.entered = [] → (doReturn e (T.setTop f) acts (some (.int z))).1 = T.setFrames fs) : Steps p.tables e below (T.setTop (mkF m pc Ls (.int z :: rest))) (T.setFrames fs) := by
  have hm' : T.vm.method? m = some meth := X.method'
  have hn : narrow .int (.int z) = .int z := rfl
  show Steps p.tables e below (T.setTop { method := m, pc := pc, locals := Ls, stack := _ :: rest, locked := none }) _
  jvm_step X.here [X.here.top, hx, hd, hm', hret, hn]
  first | (intro acts; rw [hl _ acts rfl rfl rfl]) | rw [hl _ _ rfl rfl rfl]
  exact Steps.refl _
end New
end Jvm.RoadKit
/- laws to paste: Road.backV (cut by pick.py; bodies as the Statement names them) -/
namespace Jvm.Pilot.@@N@@
namespace StrChars
open Jvm Sem ClassFile Op Lib Jvm.Stand Jvm.Free.XT Jvm.Free.ALB Jvm.Free.JM Jvm.Free
open Jvm.Lib.Cold (StaticIs)
/-- a char array whose places are chars -/
def Ch (a : Addr) (A : Cell) (U : State) : Prop := Arr .char a A U ∧ Typed .char A
theorem Ch.mv {a : Addr} {A : Cell} {U U' : State} (h : Ch a A U) (hal : U.vm.Alike U'.vm) (hh : U'.heap = U.heap) : Ch a A U' := ⟨h.1.mv hal hh, h.2⟩
theorem Ch.keep {a : Addr} {A : Cell} {U U' : State} (h : Ch a A U) (hal : U.vm.Alike U'.vm) (hk : U'.heap[a]? = some A) : Ch a A U' := ⟨h.1.keep hal hk, h.2⟩
/-- what place i of a char[]'s cell holds -/
def cv (A : Cell) (i : Nat) : Int32 := match A.slots[i]? with | some (.int x) => x | _ => 0
theorem Ch.get {a : Addr} {A : Cell} {U : State} (h : Ch a A U) {i : Nat} (hi : i < A.slots.size) : A.slots[i]? = some (.int (cv A i)) := by
  have e := Array.getElem?_eq_getElem hi
  have f := h.2 i _ e
  unfold cv; rw [e]
  generalize A.slots[i] = v at f
  cases v <;> simp [fits] at f ⊢
/-- the byte that i2b leaves of a char -/
def lo8 (x : Int32) : Int32 := x.toInt8.toInt32
theorem fits_lo8 (y : Int32) : fits .byte (.int (lo8 y)) = true := by
  have h1 := y.toInt8.le_toInt
  have h2 := y.toInt8.toInt_lt
  simp only [lo8, fits, Bool.and_eq_true, decide_eq_true_eq, Int32.le_iff_toInt_le, Int8.toInt_toInt32, show (-128 : Int32).toInt = -128 from by decide, show (127 : Int32).toInt = 127 from by decide]
  omega
/-- A' is A but that each place j of lo .. hi - 1 holds f j -/
def Laid (A A' : Cell) (lo hi : Nat) (f : Nat → Value) : Prop := A'.cls = A.cls ∧ A'.vm = A.vm ∧ A'.slots.size = A.slots.size ∧ ∀ i, A'.slots[i]? = if lo ≤ i ∧ i < hi then some (f i) else A.slots[i]?
theorem Laid.zero (A : Cell) (lo : Nat) (f : Nat → Value) : Laid A A lo (lo + 0) f := ⟨rfl, rfl, rfl, fun i => by rw [if_neg (by omega)]⟩
theorem Laid.step {A Ak : Cell} {lo k : Nat} {f : Nat → Value} {v : Value} (h : Laid A Ak lo k f) (hlo : lo ≤ k) (hk : k < Ak.slots.size) (hv : v = f k) : Laid A (Ak.setSlot k v) lo (k + 1) f := by
  refine ⟨h.1, h.2.1, by simpa [Cell.setSlot] using h.2.2.1, fun i => ?_⟩
  by_cases e : k = i
  · subst e; rw [Cell.slots_setSlot_self v hk, if_pos (by omega), hv]
  · rw [Cell.slots_setSlot_ne v e, h.2.2.2 i]
    by_cases q : lo ≤ i ∧ i < k
    · rw [if_pos q, if_pos (by omega)]
    · rw [if_neg q, if_neg (by omega)]
def U16 : String := "java/lang/StringUTF16"
namespace Cmp5
def yN : MethodName := ⟨"java/lang/StringUTF16", "compress", "([CI[BII)I"⟩
abbrev yB : ByteArray := jdk_52_method_21_code
theorem d0 : decode yB 0 = .ok (.iconst 0, 1) := by decide +kernel
theorem d1 : decode yB 1 = .ok (.istore 5, 2) := by decide +kernel
theorem d3 : decode yB 3 = .ok (.iload 5, 2) := by decide +kernel
theorem d5 : decode yB 5 = .ok (.iload 4, 2) := by decide +kernel
theorem d7 : decode yB 7 = .ok (.if_icmp (.ge) 37, 3) := by decide +kernel
theorem d10 : decode yB 10 = .ok (.aload_n 0, 1) := by decide +kernel
theorem d11 : decode yB 11 = .ok (.iload_n 1, 1) := by decide +kernel
theorem d12 : decode yB 12 = .ok (.caload, 1) := by decide +kernel
theorem d13 : decode yB 13 = .ok (.istore 6, 2) := by decide +kernel
theorem d15 : decode yB 15 = .ok (.iload 6, 2) := by decide +kernel
theorem d17 : decode yB 17 = .ok (.sipush 255, 3) := by decide +kernel
theorem d20 : decode yB 20 = .ok (.if_icmp (.le) 6, 3) := by decide +kernel
theorem d26 : decode yB 26 = .ok (.aload_n 2, 1) := by decide +kernel
theorem d27 : decode yB 27 = .ok (.iload_n 3, 1) := by decide +kernel
theorem d28 : decode yB 28 = .ok (.iload 6, 2) := by decide +kernel
theorem d30 : decode yB 30 = .ok (.i2b, 1) := by decide +kernel
theorem d31 : decode yB 31 = .ok (.bastore, 1) := by decide +kernel
theorem d32 : decode yB 32 = .ok (.iinc 1 1, 3) := by decide +kernel
theorem d35 : decode yB 35 = .ok (.iinc 3 1, 3) := by decide +kernel
theorem d38 : decode yB 38 = .ok (.iinc 5 1, 3) := by decide +kernel
theorem d41 : decode yB 41 = .ok (.goto (-38), 3) := by decide +kernel
theorem d44 : decode yB 44 = .ok (.iload 4, 2) := by decide +kernel
theorem d46 : decode yB 46 = .ok (.ireturn, 1) := by decide +kernel
def site : List Cond := []
def tab : Cond := tabOf yN yB 7 (some .int) site
def P (b : Addr) (A : Cell) (d : Addr) (B : Cell) (o q len : Nat) (args : Array Value) (s : State) : Prop := args = #[.ref b, .int (Int32.ofNat o), .ref d, .int (Int32.ofNat q), .int (Int32.ofNat len)] ∧ Ch b A s ∧ Arr .byte d B s ∧ b ≠ d ∧ o + len ≤ A.slots.size ∧ q + len ≤ B.slots.size ∧ ∀ i, i < len → ¬ 255 < cv A (o + i)
def E (b : Addr) (A : Cell) (d : Addr) (B : Cell) (o q len : Nat) (r : Option Value) (s u : State) : Prop := r = some (.int (Int32.ofNat len)) ∧ ∃ B', Put d B' s u ∧ Laid B B' q (q + len) (fun j => Value.int (lo8 (cv A (o + (j - q)))))
/-- no char of the range above 255: len; the places written hold each char's low byte -/
theorem law (l : Launch) (b : Addr) (A : Cell) (d : Addr) (B : Cell) (o q len : Nat) : Law l yN 5 5 0 0 yB 7 (some .int) site (P b A d B o q len) (E b A d B o q len) (copyLocs d q len) 0 0 := by
  refine Law.of_walk (plainFor_of_name (by decide +kernel)) (by decide +kernel) (by decide +kernel) (by decide) (fun _ _ h => by rw [h.1]; rfl) (fun _ U U' hal hh h => ⟨h.1, h.2.1.mv hal hh, h.2.2.1.mv hal hh, h.2.2.2⟩) (fun r U U' V V' h1 hal h2 h => ⟨h.1, h.2.elim fun B' q => ⟨B', q.1.mv h1 h2, q.2⟩⟩) ?_
  intro p e s m args below meth c s₁ X0 hexec hbytes hml hret hlk hnm hown hh0 W hP
  obtain ⟨rfl, hA, hB, hne, l1, l2, hp⟩ := hP
  have c1 : Steps p.tables e below (s₁.setTop (entryFrame m #[.ref b, .int (Int32.ofNat o), .ref d, .int (Int32.ofNat q), .int (Int32.ofNat len)] 7)) (s₁.setTop (mkF m 0 #[.val (.ref b), .val (.int (Int32.ofNat o)), .val (.ref d), .val (.int (Int32.ofNat q)), .val (.int (Int32.ofNat len)), .unset, .unset] [])) := entry rfl
  have hA0 := hA.1.mv X0.warmed.alike hh0
  have hB0 := hB.mv X0.warmed.alike hh0
  have a31 := hA.1.2.2.2
  have c2 : Steps p.tables e below (s₁.setTop (entryFrame m #[.ref b, .int (Int32.ofNat o), .ref d, .int (Int32.ofNat q), .int (Int32.ofNat len)] 7)) (s₁.setTop (mkF m 3 #[.val (.ref b), .val (.int (Int32.ofNat o)), .val (.ref d), .val (.int (Int32.ofNat q)), .val (.int (Int32.ofNat len)), .val (.int 0), .unset] [])) := c1.trans (by
    refine iconstV X0.here hexec rfl 0 (hb hbytes d0) (by decide) ?_
    refine XS.istore X0.here hexec rfl (hb hbytes d1) rfl rfl ?_
    exact Steps.refl _)
  have loop : ∀ (r i : Nat), i + r = len → ∀ (z : Slot), (z = .unset ∨ ∃ w, z = .val w ∧ w.category = 1) → ∀ (Tl : State) (Bk : Cell), Stand p l e { frames := 0, locals := 0, cells := 0, slots := 0 } s m #[.ref b, .int (Int32.ofNat o), .ref d, .int (Int32.ofNat q), .int (Int32.ofNat len)] below meth c Tl ([] ++ copyLocs d q i) 0 0 → Put d Bk s₁ Tl → Laid B Bk q (q + i) (fun j => Value.int (lo8 (cv A (o + (j - q))))) →
      Steps p.tables e below (s₁.setTop (entryFrame m #[.ref b, .int (Int32.ofNat o), .ref d, .int (Int32.ofNat q), .int (Int32.ofNat len)] 7)) (Tl.setTop (mkF m 3 #[.val (.ref b), .val (.int (Int32.ofNat (o + i))), .val (.ref d), .val (.int (Int32.ofNat (q + i))), .val (.int (Int32.ofNat len)), .val (.int (Int32.ofNat i)), z] [])) → ∃ (T' : State) (B' : Cell) (z' : Slot), Stand p l e { frames := 0, locals := 0, cells := 0, slots := 0 } s m #[.ref b, .int (Int32.ofNat o), .ref d, .int (Int32.ofNat q), .int (Int32.ofNat len)] below meth c T' ([] ++ copyLocs d q len) 0 0 ∧ Put d B' s₁ T' ∧ Laid B B' q (q + len) (fun j => Value.int (lo8 (cv A (o + (j - q))))) ∧
      Steps p.tables e below (s₁.setTop (entryFrame m #[.ref b, .int (Int32.ofNat o), .ref d, .int (Int32.ofNat q), .int (Int32.ofNat len)] 7)) (T'.setTop (mkF m 3 #[.val (.ref b), .val (.int (Int32.ofNat (o + len))), .val (.ref d), .val (.int (Int32.ofNat (q + len))), .val (.int (Int32.ofNat len)), .val (.int (Int32.ofNat len)), z'] [])) := by
    intro r
    induction r with
    | zero =>
      intro i hi z hz Tl Bk Xl pl fl cl
      have hil : i = len := by omega
      rw [hil] at Xl fl cl
      exact ⟨Tl, Bk, z, Xl, pl, fl, cl⟩
    | succ r ih =>
      intro i hi z hz Tl Bk Xl pl fl cl
      have all := X0.warmed.alike.symm.trans Xl.warmed.alike
      have hAl := hA0.keep all (pl.other hne hA0.1)
      have hBk := hB0.like all pl.1 fl.1 fl.2.1 fl.2.2.1
      have hlt : q + i < Bk.slots.size := by rw [fl.2.2.1]; omega
      have c3 : Steps p.tables e below (s₁.setTop (entryFrame m #[.ref b, .int (Int32.ofNat o), .ref d, .int (Int32.ofNat q), .int (Int32.ofNat len)] 7)) (Tl.setTop (mkF m 12 #[.val (.ref b), .val (.int (Int32.ofNat (o + i))), .val (.ref d), .val (.int (Int32.ofNat (q + i))), .val (.int (Int32.ofNat len)), .val (.int (Int32.ofNat i)), z] [.int (Int32.ofNat (o + i)), .ref b])) := cl.trans (by
        refine XS.iload Xl.here hexec rfl (hb hbytes d3) rfl ?_
        refine XS.iload Xl.here hexec rfl (hb hbytes d5) rfl ?_
        refine XS.icmpNo Xl.here hexec rfl (hb hbytes d7) rfl (ii_ge_f (lt32 (by omega) (by omega))) ?_
        refine XS.aloadN Xl.here hexec rfl (hb hbytes d10) rfl rfl ?_
        refine XS.iloadN Xl.here hexec rfl (hb hbytes d11) rfl ?_
        exact Steps.refl _)
      have c4 : Steps p.tables e below (s₁.setTop (entryFrame m #[.ref b, .int (Int32.ofNat o), .ref d, .int (Int32.ofNat q), .int (Int32.ofNat len)] 7)) (Tl.setTop (mkF m 13 #[.val (.ref b), .val (.int (Int32.ofNat (o + i))), .val (.ref d), .val (.int (Int32.ofNat (q + i))), .val (.int (Int32.ofNat len)), .val (.int (Int32.ofNat i)), z] [.int (cv A (o + i))])) := c3.trans (by
        refine Xl.aget hexec hAl rfl (hA.get (i := o + i) (by omega)) rfl rfl (hb hbytes d12) ?_
        exact Steps.refl _)
      have c5 : Steps p.tables e below (s₁.setTop (entryFrame m #[.ref b, .int (Int32.ofNat o), .ref d, .int (Int32.ofNat q), .int (Int32.ofNat len)] 7)) (Tl.setTop (mkF m 15 #[.val (.ref b), .val (.int (Int32.ofNat (o + i))), .val (.ref d), .val (.int (Int32.ofNat (q + i))), .val (.int (Int32.ofNat len)), .val (.int (Int32.ofNat i)), .val (.int (cv A (o + i)))] [])) := c4.trans (by
        refine XS.istoreS Xl.here hexec rfl (hb hbytes d13) rfl rfl hz ?_
        exact Steps.refl _)
      have c6 : Steps p.tables e below (s₁.setTop (entryFrame m #[.ref b, .int (Int32.ofNat o), .ref d, .int (Int32.ofNat q), .int (Int32.ofNat len)] 7)) (Tl.setTop (mkF m 31 #[.val (.ref b), .val (.int (Int32.ofNat (o + i))), .val (.ref d), .val (.int (Int32.ofNat (q + i))), .val (.int (Int32.ofNat len)), .val (.int (Int32.ofNat i)), .val (.int (cv A (o + i)))] [.int (lo8 (cv A (o + i))), .int (Int32.ofNat (q + i)), .ref d])) := c5.trans (by
        refine XS.iload Xl.here hexec rfl (hb hbytes d15) rfl ?_
        refine sipushV Xl.here hexec rfl 255 (hb hbytes d17) (by decide) ?_
        refine XS.icmpYes Xl.here hexec rfl (pc0 := 20) rfl (hb hbytes d20) rfl (ii_le_t (hp i (by omega))) (by decide) rfl ?_
        refine XS.aloadN Xl.here hexec rfl (hb hbytes d26) rfl rfl ?_
        refine XS.iloadN Xl.here hexec rfl (hb hbytes d27) rfl ?_
        refine XS.iload Xl.here hexec rfl (hb hbytes d28) rfl ?_
        refine i2b Xl.here hexec rfl (hb hbytes d30) rfl ?_
        exact Steps.refl _)
      obtain ⟨T7, X7, p7, st7⟩ := Xl.aput hexec hBk rfl hlt rfl (fits_lo8 (cv A (o + i))) (g := (mkF m 31 #[.val (.ref b), .val (.int (Int32.ofNat (o + i))), .val (.ref d), .val (.int (Int32.ofNat (q + i))), .val (.int (Int32.ofNat len)), .val (.int (Int32.ofNat i)), .val (.int (cv A (o + i)))] [.int (lo8 (cv A (o + i))), .int (Int32.ofNat (q + i)), .ref d])) rfl (rest := []) rfl (hb hbytes d31)
      have c8 : Steps p.tables e below (s₁.setTop (entryFrame m #[.ref b, .int (Int32.ofNat o), .ref d, .int (Int32.ofNat q), .int (Int32.ofNat len)] 7)) (T7.setTop (mkF m 32 #[.val (.ref b), .val (.int (Int32.ofNat (o + i))), .val (.ref d), .val (.int (Int32.ofNat (q + i))), .val (.int (Int32.ofNat len)), .val (.int (Int32.ofNat i)), .val (.int (cv A (o + i)))] [])) := c6.trans (st7 _ (Steps.refl _))
      have c9 : Steps p.tables e below (s₁.setTop (entryFrame m #[.ref b, .int (Int32.ofNat o), .ref d, .int (Int32.ofNat q), .int (Int32.ofNat len)] 7)) (T7.setTop (mkF m 3 #[.val (.ref b), .val (.int (Int32.ofNat (o + i) + 1)), .val (.ref d), .val (.int (Int32.ofNat (q + i) + 1)), .val (.int (Int32.ofNat len)), .val (.int (Int32.ofNat i + 1)), .val (.int (cv A (o + i)))] [])) := c8.trans (by
        refine iincV X7.here hexec rfl 1 (hb hbytes d32) (by decide) rfl rfl ?_
        refine iincV X7.here hexec rfl 1 (hb hbytes d35) (by decide) rfl rfl ?_
        refine iincV X7.here hexec rfl 1 (hb hbytes d38) (by decide) rfl rfl ?_
        refine XS.goto X7.here hexec rfl (pc0 := 41) rfl (hb hbytes d41) (by decide) rfl ?_
        exact Steps.refl _)
      have c10 : Steps p.tables e below (s₁.setTop (entryFrame m #[.ref b, .int (Int32.ofNat o), .ref d, .int (Int32.ofNat q), .int (Int32.ofNat len)] 7)) (T7.setTop (mkF m 3 #[.val (.ref b), .val (.int (Int32.ofNat (o + (i + 1)))), .val (.ref d), .val (.int (Int32.ofNat (q + (i + 1)))), .val (.int (Int32.ofNat len)), .val (.int (Int32.ofNat (i + 1))), .val (.int (cv A (o + i)))] [])) := by
        have := c9
        rw [succ32, succ32, succ32] at this
        exact this
      exact ih (i + 1) (by omega) _ (Or.inr ⟨_, rfl, rfl⟩) T7 _ (by rw [copyLocs_step, ← List.append_assoc]; exact X7) (pl.trans p7) (fl.step (by omega) hlt (by simp)) c10
  obtain ⟨T9, B9, z9, X9, p9, f9, g9⟩ := loop len 0 (by omega) .unset (Or.inl rfl) s₁ B (by simpa [copyLocs] using X0) ⟨hB0.1, fun _ _ => rfl, rfl⟩ (Laid.zero _ _ _) c2
  have c11 : Steps p.tables e below (s₁.setTop (entryFrame m #[.ref b, .int (Int32.ofNat o), .ref d, .int (Int32.ofNat q), .int (Int32.ofNat len)] 7)) (T9.setTop (mkF m 46 #[.val (.ref b), .val (.int (Int32.ofNat (o + len))), .val (.ref d), .val (.int (Int32.ofNat (q + len))), .val (.int (Int32.ofNat len)), .val (.int (Int32.ofNat len)), z9] [.int (Int32.ofNat len)])) := g9.trans (by
    refine XS.iload X9.here hexec rfl (hb hbytes d3) rfl ?_
    refine XS.iload X9.here hexec rfl (hb hbytes d5) rfl ?_
    refine XS.icmpYes X9.here hexec rfl (pc0 := 7) rfl (hb hbytes d7) rfl (ii_ge_t (nlt32 (by omega) (Nat.le_refl _))) (by decide) rfl ?_
    refine XS.iload X9.here hexec rfl (hb hbytes d44) rfl ?_
    exact Steps.refl _)
  exact ⟨T9, some (.int (Int32.ofNat len)), _, _, _, X9, by simp, rfl, rfl, (fun h => by cases h), ⟨rfl, B9, p9.from hh0, f9⟩, fun fs hl => c11.trans (X9.ireturnOut hexec hret rfl (Or.inl rfl) (hb hbytes d46) hl)⟩
end Cmp5
namespace Cmp3
def yN : MethodName := ⟨"java/lang/StringUTF16", "compress", "([CII)[B"⟩
abbrev yB : ByteArray := jdk_52_method_16_code
theorem d0 : decode yB 0 = .ok (.iload_n 2, 1) := by decide +kernel
theorem d1 : decode yB 1 = .ok (.newarray .byte, 2) := by decide +kernel
theorem d3 : decode yB 3 = .ok (.astore_n 3, 1) := by decide +kernel
theorem d4 : decode yB 4 = .ok (.aload_n 0, 1) := by decide +kernel
theorem d5 : decode yB 5 = .ok (.iload_n 1, 1) := by decide +kernel
theorem d6 : decode yB 6 = .ok (.aload_n 3, 1) := by decide +kernel
theorem d7 : decode yB 7 = .ok (.iconst 0, 1) := by decide +kernel
theorem d8 : decode yB 8 = .ok (.iload_n 2, 1) := by decide +kernel
theorem d9 : decode yB 9 = .ok (.invokestatic 115, 3) := by decide +kernel
theorem d12 : decode yB 12 = .ok (.istore 4, 2) := by decide +kernel
theorem d14 : decode yB 14 = .ok (.iload 4, 2) := by decide +kernel
theorem d16 : decode yB 16 = .ok (.iload_n 2, 1) := by decide +kernel
theorem d17 : decode yB 17 = .ok (.if_icmp (.eq) 40, 3) := by decide +kernel
theorem d57 : decode yB 57 = .ok (.aload_n 3, 1) := by decide +kernel
theorem d58 : decode yB 58 = .ok (.areturn, 1) := by decide +kernel
def site : List Cond := [.arrayClass .byte, Cmp5.tab] ++ staticW U16 115 Cmp5.yN
def tab : Cond := tabOf yN yB 6 (some (.array .byte)) site
def P (b : Addr) (A : Cell) (o len : Nat) (args : Array Value) (s : State) : Prop := args = #[.ref b, .int (Int32.ofNat o), .int (Int32.ofNat len)] ∧ Ch b A s ∧ o + len ≤ A.slots.size ∧ len ≤ 536870912 ∧ ∀ i, i < len → ¬ 255 < cv A (o + i)
def E (b : Addr) (A : Cell) (o len : Nat) (r : Option Value) (s u : State) : Prop := NewArr .byte "[B" len (fun j => .int (lo8 (cv A (o + j)))) r s u ∧ u.heap.size = s.heap.size + 1
/-- no char of the range above 255: a new byte[] of their low bytes -/
theorem law (l : Launch) (b : Addr) (A : Cell) (o len : Nat) : Law l yN 3 3 1 18 yB 6 (some (.array .byte)) site (P b A o len) (E b A o len) [] 1 len := by
  refine Law.of_walk (plainFor_of_name (by decide +kernel)) (by decide +kernel) (by decide +kernel) (by decide) (fun _ _ h => by rw [h.1]; rfl) (fun _ U U' hal hh h => ⟨h.1, h.2.1.mv hal hh, h.2.2⟩) (fun r U U' V V' h1 hal h2 h => ⟨NewArr.mv r U U' V V' h1 hal h2 h.1, by rw [h1, h2]; exact h.2⟩) ?_
  intro p e s m args below meth c s₁ X0 hexec hbytes hml hret hlk hnm hown hh0 W hP
  obtain ⟨rfl, hA, l1, l2, hp⟩ := hP
  have a31 := hA.1.2.2.2
  have c1 : Steps p.tables e below (s₁.setTop (entryFrame m #[.ref b, .int (Int32.ofNat o), .int (Int32.ofNat len)] 6)) (s₁.setTop (mkF m 0 #[.val (.ref b), .val (.int (Int32.ofNat o)), .val (.int (Int32.ofNat len)), .unset, .unset, .unset] [])) := entry rfl
  have c2 : Steps p.tables e below (s₁.setTop (entryFrame m #[.ref b, .int (Int32.ofNat o), .int (Int32.ofNat len)] 6)) (s₁.setTop (mkF m 1 #[.val (.ref b), .val (.int (Int32.ofNat o)), .val (.int (Int32.ofNat len)), .unset, .unset, .unset] [.int (Int32.ofNat len)])) := c1.trans (by
    refine XS.iloadN X0.here hexec rfl (hb hbytes d0) rfl ?_
    exact Steps.refl _)
  obtain ⟨T3, B3, X3, ba3, bs3, bv3, bh3, bf3, st3⟩ := X0.anew hexec (atype := .byte) (wk W (.arrayClass .byte)) rfl (by show len * 1 ≤ _; omega) (by omega) (g := (mkF m 1 #[.val (.ref b), .val (.int (Int32.ofNat o)), .val (.int (Int32.ofNat len)), .unset, .unset, .unset] [.int (Int32.ofNat len)])) rfl (hb hbytes d1) (rest := []) rfl (Nat.le_refl _) (by show 0 + len ≤ len; omega)
  rw [hh0] at ba3 st3
  have kp3 : XT.Kept s T3 := (XT.Kept.of_eq hh0).push bh3
  have hA3 := hA.keep X3.warmed.alike (kp3 _ _ hA.1.1)
  have hne : b ≠ s.heap.size := hA.1.ne
  have c4 : Steps p.tables e below (s₁.setTop (entryFrame m #[.ref b, .int (Int32.ofNat o), .int (Int32.ofNat len)] 6)) (T3.setTop (mkF m 3 #[.val (.ref b), .val (.int (Int32.ofNat o)), .val (.int (Int32.ofNat len)), .unset, .unset, .unset] [.ref s.heap.size])) := c2.trans (st3 _ (Steps.refl _))
  have c5 : Steps p.tables e below (s₁.setTop (entryFrame m #[.ref b, .int (Int32.ofNat o), .int (Int32.ofNat len)] 6)) (T3.setTop (mkF m 9 #[.val (.ref b), .val (.int (Int32.ofNat o)), .val (.int (Int32.ofNat len)), .val (.ref s.heap.size), .unset, .unset] [.int (Int32.ofNat len), .int 0, .ref s.heap.size, .int (Int32.ofNat o), .ref b])) := c4.trans (by
    refine XS.astoreN X3.here hexec rfl (hb hbytes d3) rfl rfl rfl ?_
    refine XS.aloadN X3.here hexec rfl (hb hbytes d4) rfl rfl ?_
    refine XS.iloadN X3.here hexec rfl (hb hbytes d5) rfl ?_
    refine XS.aloadN X3.here hexec rfl (hb hbytes d6) rfl rfl ?_
    refine iconstV X3.here hexec rfl 0 (hb hbytes d7) (by decide) ?_
    refine XS.iloadN X3.here hexec rfl (hb hbytes d8) rfl ?_
    exact Steps.refl _)
  obtain ⟨v6, T6, X6, E6, g6⟩ := X3.callS hexec (Cmp5.law l b A s.heap.size B3 o 0 len) hown (wks W (staticW U16 115 Cmp5.yN)) (wk W Cmp5.tab) (W := 0) (Nat.le_of_ble_eq_true rfl) (Nat.le_of_ble_eq_true rfl) (Nat.le_refl _) (by show 0 + len + 0 ≤ len; omega) (g := (mkF m 9 #[.val (.ref b), .val (.int (Int32.ofNat o)), .val (.int (Int32.ofNat len)), .val (.ref s.heap.size), .unset, .unset] [.int (Int32.ofNat len), .int (Int32.ofNat 0), .ref s.heap.size, .int (Int32.ofNat o), .ref b])) rfl (by rw [hml]; rfl) c5 (argsL := [.ref b, .int (Int32.ofNat o), .ref s.heap.size, .int (Int32.ofNat 0), .int (Int32.ofNat len)]) (rest := []) rfl rfl (by show 2 * 0 + 0 ≤ _; decide) (hb hbytes d9) (⟨rfl, hA3, ba3, hne, l1, by rw [bs3]; simp, hp⟩)
  obtain ⟨rfl, B6, p6, f6⟩ := E6
  have c7 : Steps p.tables e below (s₁.setTop (entryFrame m #[.ref b, .int (Int32.ofNat o), .int (Int32.ofNat len)] 6)) (T6.setTop (mkF m 12 #[.val (.ref b), .val (.int (Int32.ofNat o)), .val (.int (Int32.ofNat len)), .val (.ref s.heap.size), .unset, .unset] [.int (Int32.ofNat len)])) := g6
  have c8 : Steps p.tables e below (s₁.setTop (entryFrame m #[.ref b, .int (Int32.ofNat o), .int (Int32.ofNat len)] 6)) (T6.setTop (mkF m 58 #[.val (.ref b), .val (.int (Int32.ofNat o)), .val (.int (Int32.ofNat len)), .val (.ref s.heap.size), .val (.int (Int32.ofNat len)), .unset] [.ref s.heap.size])) := c7.trans (by
    refine XS.istore X6.here hexec rfl (hb hbytes d12) rfl rfl ?_
    refine XS.iload X6.here hexec rfl (hb hbytes d14) rfl ?_
    refine XS.iloadN X6.here hexec rfl (hb hbytes d16) rfl ?_
    refine XS.icmpYes X6.here hexec rfl (pc0 := 17) rfl (hb hbytes d17) rfl (ii_eq_t rfl) (by decide) rfl ?_
    refine XS.aloadN X6.here hexec rfl (hb hbytes d57) rfl rfl ?_
    exact Steps.refl _)
  have X8 := X6.wide (L' := []) (cells' := 1) (slots' := len) (fun x hx hlt => by
    simp only [List.nil_append, copyLocs, List.mem_map, List.mem_range] at hx
    obtain ⟨i, -, rfl⟩ := hx
    exact absurd hlt (Nat.lt_irrefl _)) (Nat.le_refl _) (by omega)
  exact ⟨T6, some (.ref s.heap.size), _, _, _, X8, rfl, rfl, rfl, (fun h => by cases h), ⟨⟨rfl, B6, ba3.like (X3.warmed.alike.symm.trans X6.warmed.alike) p6.1 f6.1 f6.2.1 f6.2.2.1, f6.2.1.trans bv3, by rw [X6.warmed.alike.findClass, f6.1]; exact bf3, by rw [f6.2.2.1, bs3]; simp, fun j hj => by rw [f6.2.2.2 j, if_pos (by omega)]; rfl, kp3.put p6 (Nat.le_refl _)⟩, by rw [p6.2.2, bh3, hh0]; simp⟩, fun fs hl => c8.trans (X8.areturnOut hexec rfl hret rfl (hb hbytes d58) hl)⟩
end Cmp3
namespace CodL
def yN : MethodName := ⟨"java/lang/StringUTF16", "coderFromArrayLen", "([BI)B"⟩
abbrev yB : ByteArray := jdk_52_method_15_code
theorem d0 : decode yB 0 = .ok (.iload_n 1, 1) := by decide +kernel
theorem d1 : decode yB 1 = .ok (.aload_n 0, 1) := by decide +kernel
theorem d2 : decode yB 2 = .ok (.arraylength, 1) := by decide +kernel
theorem d3 : decode yB 3 = .ok (.isub, 1) := by decide +kernel
theorem d4 : decode yB 4 = .ok (.bipush 31, 2) := by decide +kernel
theorem d6 : decode yB 6 = .ok (.iushr, 1) := by decide +kernel
theorem d7 : decode yB 7 = .ok (.i2b, 1) := by decide +kernel
theorem d8 : decode yB 8 = .ok (.ireturn, 1) := by decide +kernel
def site : List Cond := []
def tab : Cond := tabOf yN yB 2 (some .byte) site
def P (d : Addr) (B : Cell) (args : Array Value) (s : State) : Prop := args = #[.ref d, .int (Int32.ofNat B.slots.size)] ∧ Arr .byte d B s
def E (r : Option Value) (s u : State) : Prop := XT.PureE (some (.int 0)) r s u
/-- an array as long as the number of chars: LATIN1 -/
theorem law (l : Launch) (d : Addr) (B : Cell) : Law l yN 2 2 0 0 yB 2 (some .byte) site (P d B) E [] 0 0 := by
  refine Law.of_walk (plainFor_of_name (by decide +kernel)) (by decide +kernel) (by decide +kernel) (by decide) (fun _ _ h => by rw [h.1]; rfl) (fun _ U U' hal hh h => ⟨h.1, h.2.mv hal hh⟩) (fun r U U' V V' h1 hal h2 h => XT.PureE.mv r U U' V V' h1 hal h2 h) ?_
  intro p e s m args below meth c s₁ X0 hexec hbytes hml hret hlk hnm hown hh0 W hP
  obtain ⟨rfl, hB⟩ := hP
  have hB0 := hB.mv X0.warmed.alike hh0
  have c1 : Steps p.tables e below (s₁.setTop (entryFrame m #[.ref d, .int (Int32.ofNat B.slots.size)] 2)) (s₁.setTop (mkF m 0 #[.val (.ref d), .val (.int (Int32.ofNat B.slots.size))] [])) := entry rfl
  have c2 : Steps p.tables e below (s₁.setTop (entryFrame m #[.ref d, .int (Int32.ofNat B.slots.size)] 2)) (s₁.setTop (mkF m 2 #[.val (.ref d), .val (.int (Int32.ofNat B.slots.size))] [.ref d, .int (Int32.ofNat B.slots.size)])) := c1.trans (by
    refine XS.iloadN X0.here hexec rfl (hb hbytes d0) rfl ?_
    refine XS.aloadN X0.here hexec rfl (hb hbytes d1) rfl rfl ?_
    exact Steps.refl _)
  have c3 : Steps p.tables e below (s₁.setTop (entryFrame m #[.ref d, .int (Int32.ofNat B.slots.size)] 2)) (s₁.setTop (mkF m 8 #[.val (.ref d), .val (.int (Int32.ofNat B.slots.size))] [.int (lo8 (ushr (Int32.ofNat B.slots.size - Int32.ofNat B.slots.size) 31))])) := c2.trans (by
    refine X0.alen hexec hB0 rfl rfl (hb hbytes d2) ?_
    refine XS.isub X0.here hexec rfl (hb hbytes d3) rfl ?_
    refine bipushV X0.here hexec rfl 31 (hb hbytes d4) (by decide) ?_
    refine iushr X0.here hexec rfl (hb hbytes d6) rfl ?_
    refine i2b X0.here hexec rfl (hb hbytes d7) rfl ?_
    exact Steps.refl _)
  have e0 : lo8 (ushr (Int32.ofNat B.slots.size - Int32.ofNat B.slots.size) 31) = 0 := by rw [Int32.sub_self]; decide
  rw [e0] at c3
  exact ⟨s₁, some (.int 0), _, _, _, X0, rfl, rfl, rfl, (fun h => by cases h), ⟨rfl, hh0⟩, fun fs hl => c3.trans (X0.ireturnOut hexec hret rfl (Or.inr (Or.inr (Or.inl rfl))) (hb hbytes d8) hl)⟩
end CodL
/-- the String at a is Latin-1 over a new byte[] (the heap's one new cell): the low bytes of the len chars of A from o on; every cell but a is kept -/
def Got (a : Addr) (D : Cell) (fV fC : Field) (A : Cell) (o len : Nat) (r : Option Value) (s u : State) : Prop := r = none ∧ ∃ D' V : Cell, Blank "java/lang/String" a D' u ∧ Same D D' [fV.slot, fC.slot] ∧ D'.slots[fV.slot]? = some (.ref s.heap.size) ∧ D'.slots[fC.slot]? = some (.int 0) ∧ Arr .byte s.heap.size V u ∧ V.vm = .none ∧ u.vm.findClass "[B" = some V.cls ∧ V.slots.size = len ∧ (∀ j, j < len → V.slots[j]? = some (.int (lo8 (cv A (o + j))))) ∧ (∀ (y : Addr) (c : Cell), y ≠ a → s.heap[y]? = some c → u.heap[y]? = some c) ∧ u.heap.size = s.heap.size + 1
theorem Got.mv {a : Addr} {D A : Cell} {fV fC : Field} {o len : Nat} : ∀ r (U U' V V' : State), U'.heap = U.heap → V.vm.Alike V'.vm → V'.heap = V.heap → Got a D fV fC A o len r U V → Got a D fV fC A o len r U' V' :=
  fun r U U' V V' h1 hal h2 ⟨e0, D', X, a1, a2, a3, a4, a5, a6, a7, a8, a9, a10, a11⟩ => ⟨e0, D', X, a1.mv hal h2, a2, by rw [h1]; exact a3, a4, by rw [h1]; exact a5.mv hal h2, a6, by rw [hal.findClass]; exact a7, a8, a9, by rw [h1, h2]; exact a10, by rw [h1, h2]; exact a11⟩
namespace New4
def yN : MethodName := ⟨"java/lang/String", "<init>", "([CIILjava/lang/Void;)V"⟩
abbrev yB : ByteArray := jdk_42_method_149_code
theorem d0 : decode yB 0 = .ok (.aload_n 0, 1) := by decide +kernel
theorem d1 : decode yB 1 = .ok (.invokespecial 1, 3) := by decide +kernel
theorem d4 : decode yB 4 = .ok (.iload_n 3, 1) := by decide +kernel
theorem d5 : decode yB 5 = .ok (.ifCond (.ne) 22, 3) := by decide +kernel
theorem d27 : decode yB 27 = .ok (.getstatic 38, 3) := by decide +kernel
theorem d30 : decode yB 30 = .ok (.ifCond (.eq) 28, 3) := by decide +kernel
theorem d33 : decode yB 33 = .ok (.aload_n 1, 1) := by decide +kernel
theorem d34 : decode yB 34 = .ok (.iload_n 2, 1) := by decide +kernel
theorem d35 : decode yB 35 = .ok (.iload_n 3, 1) := by decide +kernel
theorem d36 : decode yB 36 = .ok (.invokestatic 177, 3) := by decide +kernel
theorem d39 : decode yB 39 = .ok (.astore 5, 2) := by decide +kernel
theorem d41 : decode yB 41 = .ok (.aload_n 0, 1) := by decide +kernel
theorem d42 : decode yB 42 = .ok (.aload 5, 2) := by decide +kernel
theorem d44 : decode yB 44 = .ok (.iload_n 3, 1) := by decide +kernel
theorem d45 : decode yB 45 = .ok (.invokestatic 47, 3) := by decide +kernel
theorem d48 : decode yB 48 = .ok (.putfield 15, 3) := by decide +kernel
theorem d51 : decode yB 51 = .ok (.aload_n 0, 1) := by decide +kernel
theorem d52 : decode yB 52 = .ok (.aload 5, 2) := by decide +kernel
theorem d54 : decode yB 54 = .ok (.putfield 9, 3) := by decide +kernel
theorem d57 : decode yB 57 = .ok (.return_, 1) := by decide +kernel
def site : List Cond := [.fieldLink "java/lang/String" 38 "java/lang/String" "COMPACT_STRINGS" "Z", Cmp3.tab, CodL.tab, .laysFinal "java/lang/String" "java/lang/String" "value" "[B", .fieldLink "java/lang/String" 9 "java/lang/String" "value" "[B", .laysFinal "java/lang/String" "java/lang/String" "coder" "B", .fieldLink "java/lang/String" 15 "java/lang/String" "coder" "B"] ++ objW "java/lang/String" 1 ++ staticW "java/lang/String" 177 Cmp3.yN ++ staticW "java/lang/String" 47 CodL.yN
def tab : Cond := tabOf yN yB 6 none site
def P (a : Addr) (D : Cell) (fV fC : Field) (b : Addr) (A : Cell) (z : Int32) (o len : Nat) (args : Array Value) (s : State) : Prop := args = #[.ref a, .ref b, .int (Int32.ofNat o), .int (Int32.ofNat len), .null] ∧ Blank "java/lang/String" a D s ∧ Found "java/lang/String" "value" "[B" fV s ∧ Found "java/lang/String" "coder" "B" fC s ∧ Ch b A s ∧ StaticIs s "java/lang/String" "COMPACT_STRINGS" "Z" (.int z) ∧ ¬ z = 0 ∧ 0 < len ∧ o + len ≤ A.slots.size ∧ len ≤ 536870912 ∧ ∀ i, i < len → ¬ 255 < cv A (o + i)
def E (a : Addr) (D : Cell) (fV fC : Field) (A : Cell) (o len : Nat) (r : Option Value) (s u : State) : Prop := Got a D fV fC A o len r s u
/-- len > 0, no char of the range above 255: a Latin-1 String of their low bytes -/
theorem law (l : Launch) (a : Addr) (D : Cell) (fV fC : Field) (b : Addr) (A : Cell) (z : Int32) (o len : Nat) : Law l yN 5 4 2 35 yB 6 none site (P a D fV fC b A z o len) (E a D fV fC A o len) [⟨a, fC.slot⟩, ⟨a, fV.slot⟩] 1 len := by
  refine Law.of_walk (plainFor_of_name (by decide +kernel)) (by decide +kernel) (by decide +kernel) (by decide) (fun _ _ h => by rw [h.1]; rfl) (fun _ U U' hal hh h => ⟨h.1, h.2.1.mv hal hh, h.2.2.1.al hal, h.2.2.2.1.al hal, h.2.2.2.2.1.mv hal hh, h.2.2.2.2.2.1.there hal hh, h.2.2.2.2.2.2⟩) (fun r U U' V V' h1 hal h2 h => Got.mv r U U' V V' h1 hal h2 h) ?_
  intro p e s m args below meth c s₁ X0 hexec hbytes hml hret hlk hnm hown hh0 W hP
  obtain ⟨rfl, hB, f1, f2, hA, s1, hz, l0, l1, l2, hp⟩ := hP
  have a31 := hA.1.2.2.2
  have c1 : Steps p.tables e below (s₁.setTop (entryFrame m #[.ref a, .ref b, .int (Int32.ofNat o), .int (Int32.ofNat len), .null] 6)) (s₁.setTop (mkF m 0 #[.val (.ref a), .val (.ref b), .val (.int (Int32.ofNat o)), .val (.int (Int32.ofNat len)), .val .null, .unset] [])) := entry rfl
  have c2 : Steps p.tables e below (s₁.setTop (entryFrame m #[.ref a, .ref b, .int (Int32.ofNat o), .int (Int32.ofNat len), .null] 6)) (s₁.setTop (mkF m 1 #[.val (.ref a), .val (.ref b), .val (.int (Int32.ofNat o)), .val (.int (Int32.ofNat len)), .val .null, .unset] [.ref a])) := c1.trans (by
    refine XS.aloadN X0.here hexec rfl (hb hbytes d0) rfl rfl ?_
    exact Steps.refl _)
  obtain ⟨T3, X3, q3, st3⟩ := X0.oinit hexec hown (wks W (objW "java/lang/String" 1)) (g := (mkF m 1 #[.val (.ref a), .val (.ref b), .val (.int (Int32.ofNat o)), .val (.int (Int32.ofNat len)), .val .null, .unset] [.ref a])) rfl (by rw [hml]; rfl) (rest := []) rfl (hb hbytes d1) (W := 0) (by show 2 * 0 + 0 ≤ _; decide) (Nat.le_of_ble_eq_true rfl) (Nat.le_of_ble_eq_true rfl)
  have hh3 := q3.trans hh0
  have c4 : Steps p.tables e below (s₁.setTop (entryFrame m #[.ref a, .ref b, .int (Int32.ofNat o), .int (Int32.ofNat len), .null] 6)) (T3.setTop (mkF m 27 #[.val (.ref a), .val (.ref b), .val (.int (Int32.ofNat o)), .val (.int (Int32.ofNat len)), .val .null, .unset] [])) := (c2.trans (st3 _ (Steps.refl _))).trans (by
    refine XS.iloadN X3.here hexec rfl (hb hbytes d4) rfl ?_
    refine XS.ifYes X3.here hexec rfl (pc0 := 5) rfl (hb hbytes d5) rfl (i0_ne_t (nz32 (by omega) l0)) (by decide) rfl ?_
    exact Steps.refl _)
  obtain ⟨T5, X5, q5, st5⟩ := X3.sget hexec hown (wk W (.fieldLink "java/lang/String" 38 "java/lang/String" "COMPACT_STRINGS" "Z")) s1 (fun _ _ h => by rw [hh3]; exact h) (g := (mkF m 27 #[.val (.ref a), .val (.ref b), .val (.int (Int32.ofNat o)), .val (.int (Int32.ofNat len)), .val .null, .unset] [])) rfl (hb hbytes d27)
  have hh5 := q5.trans hh3
  have c6 : Steps p.tables e below (s₁.setTop (entryFrame m #[.ref a, .ref b, .int (Int32.ofNat o), .int (Int32.ofNat len), .null] 6)) (T5.setTop (mkF m 30 #[.val (.ref a), .val (.ref b), .val (.int (Int32.ofNat o)), .val (.int (Int32.ofNat len)), .val .null, .unset] [.int z])) := c4.trans (st5 _ (Steps.refl _))
  have c7 : Steps p.tables e below (s₁.setTop (entryFrame m #[.ref a, .ref b, .int (Int32.ofNat o), .int (Int32.ofNat len), .null] 6)) (T5.setTop (mkF m 36 #[.val (.ref a), .val (.ref b), .val (.int (Int32.ofNat o)), .val (.int (Int32.ofNat len)), .val .null, .unset] [.int (Int32.ofNat len), .int (Int32.ofNat o), .ref b])) := c6.trans (by
    refine XS.ifNo X5.here hexec rfl (hb hbytes d30) rfl (i0_eq_f hz) ?_
    refine XS.aloadN X5.here hexec rfl (hb hbytes d33) rfl rfl ?_
    refine XS.iloadN X5.here hexec rfl (hb hbytes d34) rfl ?_
    refine XS.iloadN X5.here hexec rfl (hb hbytes d35) rfl ?_
    exact Steps.refl _)
  obtain ⟨v8, T8, X8, E8, g8⟩ := X5.callS hexec (Cmp3.law l b A o len) hown (wks W (staticW "java/lang/String" 177 Cmp3.yN)) (wk W Cmp3.tab) (W := 0) (Nat.le_of_ble_eq_true rfl) (Nat.le_of_ble_eq_true rfl) (Nat.le_refl _) (by show 0 + len ≤ len; omega) (g := (mkF m 36 #[.val (.ref a), .val (.ref b), .val (.int (Int32.ofNat o)), .val (.int (Int32.ofNat len)), .val .null, .unset] [.int (Int32.ofNat len), .int (Int32.ofNat o), .ref b])) rfl (by rw [hml]; rfl) c7 (argsL := [.ref b, .int (Int32.ofNat o), .int (Int32.ofNat len)]) (rest := []) rfl rfl (by show 2 * 0 + 0 ≤ _; decide) (hb hbytes d36) (⟨rfl, hA.mv X5.warmed.alike hh5, l1, l2, hp⟩)
  obtain ⟨e8, z8⟩ := E8
  obtain ⟨rfl, N, n1, n2, n3, n4, n5, n6⟩ := NewArr.mv _ T5 s _ _ hh5.symm (Vm.Alike.refl _) rfl e8
  rw [hh5] at z8
  have hB1 := hB.keep X8.warmed.alike (n6 _ _ hB.1)
  have hne : s.heap.size ≠ a := (Nat.ne_of_lt (Array.getElem?_eq_some_iff.mp hB.1).1).symm
  have c9 : Steps p.tables e below (s₁.setTop (entryFrame m #[.ref a, .ref b, .int (Int32.ofNat o), .int (Int32.ofNat len), .null] 6)) (T8.setTop (mkF m 39 #[.val (.ref a), .val (.ref b), .val (.int (Int32.ofNat o)), .val (.int (Int32.ofNat len)), .val .null, .unset] [.ref s.heap.size])) := g8
  have c10 : Steps p.tables e below (s₁.setTop (entryFrame m #[.ref a, .ref b, .int (Int32.ofNat o), .int (Int32.ofNat len), .null] 6)) (T8.setTop (mkF m 45 #[.val (.ref a), .val (.ref b), .val (.int (Int32.ofNat o)), .val (.int (Int32.ofNat len)), .val .null, .val (.ref s.heap.size)] [.int (Int32.ofNat N.slots.size), .ref s.heap.size, .ref a])) := by
    have hc : Steps p.tables e below (s₁.setTop (entryFrame m #[.ref a, .ref b, .int (Int32.ofNat o), .int (Int32.ofNat len), .null] 6)) (T8.setTop (mkF m 45 #[.val (.ref a), .val (.ref b), .val (.int (Int32.ofNat o)), .val (.int (Int32.ofNat len)), .val .null, .val (.ref s.heap.size)] [.int (Int32.ofNat len), .ref s.heap.size, .ref a])) := c9.trans (by
      refine XS.astore X8.here hexec rfl (hb hbytes d39) rfl rfl rfl ?_
      refine XS.aloadN X8.here hexec rfl (hb hbytes d41) rfl rfl ?_
      refine XS.aload X8.here hexec rfl (hb hbytes d42) rfl rfl ?_
      refine XS.iloadN X8.here hexec rfl (hb hbytes d44) rfl ?_
      exact Steps.refl _)
    rw [n4]; exact hc
  obtain ⟨v11, T11, X11, E11, g11⟩ := X8.callS hexec (CodL.law l s.heap.size N) hown (wks W (staticW "java/lang/String" 47 CodL.yN)) (wk W CodL.tab) (W := 1) (Nat.le_of_ble_eq_true rfl) (Nat.le_of_ble_eq_true rfl) (Nat.le_refl _) (by show 0 + len + 0 ≤ len; omega) (g := (mkF m 45 #[.val (.ref a), .val (.ref b), .val (.int (Int32.ofNat o)), .val (.int (Int32.ofNat len)), .val .null, .val (.ref s.heap.size)] [.int (Int32.ofNat N.slots.size), .ref s.heap.size, .ref a])) rfl (by rw [hml]; rfl) c10 (argsL := [.ref s.heap.size, .int (Int32.ofNat N.slots.size)]) (rest := [.ref a]) rfl rfl (by show 2 * 0 + (1 + 0) ≤ _; decide) (hb hbytes d45) (⟨rfl, n1⟩)
  obtain ⟨rfl, q11⟩ := E11
  have hB11 := hB1.mv (X8.warmed.alike.symm.trans X11.warmed.alike) q11
  have c12 : Steps p.tables e below (s₁.setTop (entryFrame m #[.ref a, .ref b, .int (Int32.ofNat o), .int (Int32.ofNat len), .null] 6)) (T11.setTop (mkF m 48 #[.val (.ref a), .val (.ref b), .val (.int (Int32.ofNat o)), .val (.int (Int32.ofNat len)), .val .null, .val (.ref s.heap.size)] [.int 0, .ref a])) := g11
  obtain ⟨T13, X13, p13, bl13, sl13, st13⟩ := X11.finit hexec hown (wk W (.fieldLink "java/lang/String" 15 "java/lang/String" "coder" "B")) (Or.inr ⟨_, (wk W (.laysFinal "java/lang/String" "java/lang/String" "coder" "B"))⟩) (Or.inl ⟨rfl, hnm⟩) f2 (Or.inl rfl) hB11 (t := .byte) (by decide +kernel) rfl (g := (mkF m 48 #[.val (.ref a), .val (.ref b), .val (.int (Int32.ofNat o)), .val (.int (Int32.ofNat len)), .val .null, .val (.ref s.heap.size)] [.int 0, .ref a])) rfl (rest := []) rfl (hb hbytes d48)
  have c14 : Steps p.tables e below (s₁.setTop (entryFrame m #[.ref a, .ref b, .int (Int32.ofNat o), .int (Int32.ofNat len), .null] 6)) (T13.setTop (mkF m 54 #[.val (.ref a), .val (.ref b), .val (.int (Int32.ofNat o)), .val (.int (Int32.ofNat len)), .val .null, .val (.ref s.heap.size)] [.ref s.heap.size, .ref a])) := (c12.trans (st13 _ (Steps.refl _))).trans (by
    refine XS.aloadN X13.here hexec rfl (hb hbytes d51) rfl rfl ?_
    refine XS.aload X13.here hexec rfl (hb hbytes d52) rfl rfl ?_
    exact Steps.refl _)
  obtain ⟨T15, X15, p15, bl15, sl15, st15⟩ := X13.finit hexec hown (wk W (.fieldLink "java/lang/String" 9 "java/lang/String" "value" "[B")) (Or.inr ⟨_, (wk W (.laysFinal "java/lang/String" "java/lang/String" "value" "[B"))⟩) (Or.inl ⟨rfl, hnm⟩) f1 (Or.inl rfl) bl13 (t := (.array .byte)) (by decide +kernel) rfl (g := (mkF m 54 #[.val (.ref a), .val (.ref b), .val (.int (Int32.ofNat o)), .val (.int (Int32.ofNat len)), .val .null, .val (.ref s.heap.size)] [.ref s.heap.size, .ref a])) rfl (rest := []) rfl (hb hbytes d54)
  have c16 : Steps p.tables e below (s₁.setTop (entryFrame m #[.ref a, .ref b, .int (Int32.ofNat o), .int (Int32.ofNat len), .null] 6)) (T15.setTop (mkF m 57 #[.val (.ref a), .val (.ref b), .val (.int (Int32.ofNat o)), .val (.int (Int32.ofNat len)), .val .null, .val (.ref s.heap.size)] [])) := c14.trans (st15 _ (Steps.refl _))
  have ap := apart (Or.inr ⟨_, (wk W (.laysFinal "java/lang/String" "java/lang/String" "value" "[B"))⟩) (Or.inr ⟨_, (wk W (.laysFinal "java/lang/String" "java/lang/String" "coder" "B"))⟩) f1 f2 (t₁ := .array .byte) (t₂ := .byte) (by decide +kernel) (by decide +kernel) (by decide)
  have al := X8.warmed.alike.symm.trans X15.warmed.alike
  have n7 : T11.heap[s.heap.size]? = some N := by rw [q11]; exact n1.1
  exact ⟨T15, none, _, _, _, X15, by simp, rfl, by omega, (fun _ => rfl), ⟨rfl, _, N, bl15, ((Same.refl D _).set _ (by simp)).set _ (by simp), sl15, (Cell.slots_setSlot_ne _ ap).trans sl13, n1.keep al (p15.other hne (p13.other hne n7)), n2, by rw [al.findClass]; exact n3, n4, n5, fun y c h1 h2 => p15.other h1 (p13.other h1 (by rw [q11]; exact n6 y c h2)), by rw [p15.2.2, p13.2.2, q11]; exact z8⟩, fun fs hl => c16.trans (X15.returnOut hexec hret (hb hbytes d57) hl)⟩
end New4
namespace New1
def yN : MethodName := ⟨"java/lang/String", "<init>", "([C)V"⟩
abbrev yB : ByteArray := jdk_42_method_3_code
theorem d0 : decode yB 0 = .ok (.aload_n 0, 1) := by decide +kernel
theorem d1 : decode yB 1 = .ok (.aload_n 1, 1) := by decide +kernel
theorem d2 : decode yB 2 = .ok (.iconst 0, 1) := by decide +kernel
theorem d3 : decode yB 3 = .ok (.aload_n 1, 1) := by decide +kernel
theorem d4 : decode yB 4 = .ok (.arraylength, 1) := by decide +kernel
theorem d5 : decode yB 5 = .ok (.aconst_null, 1) := by decide +kernel
theorem d6 : decode yB 6 = .ok (.invokespecial 27, 3) := by decide +kernel
theorem d9 : decode yB 9 = .ok (.return_, 1) := by decide +kernel
def site : List Cond := [New4.tab] ++ initW "java/lang/String" 27 New4.yN
def tab : Cond := tabOf yN yB 2 none site
def P (a : Addr) (D : Cell) (fV fC : Field) (b : Addr) (A : Cell) (z : Int32) (args : Array Value) (s : State) : Prop := args = #[.ref a, .ref b] ∧ Blank "java/lang/String" a D s ∧ Found "java/lang/String" "value" "[B" fV s ∧ Found "java/lang/String" "coder" "B" fC s ∧ Ch b A s ∧ StaticIs s "java/lang/String" "COMPACT_STRINGS" "Z" (.int z) ∧ ¬ z = 0 ∧ 0 < A.slots.size ∧ A.slots.size ≤ 536870912 ∧ ∀ i, i < A.slots.size → ¬ 255 < cv A i
def E (a : Addr) (D : Cell) (fV fC : Field) (A : Cell) (r : Option Value) (s u : State) : Prop := Got a D fV fC A 0 A.slots.size r s u
/-- new String(chars), not empty, no char above 255: a Latin-1 String of their low bytes -/
theorem law (l : Launch) (a : Addr) (D : Cell) (fV fC : Field) (b : Addr) (A : Cell) (z : Int32) : Law l yN 2 1 3 52 yB 2 none site (P a D fV fC b A z) (E a D fV fC A) [⟨a, fC.slot⟩, ⟨a, fV.slot⟩] 1 A.slots.size := by
  refine Law.of_walk (plainFor_of_name (by decide +kernel)) (by decide +kernel) (by decide +kernel) (by decide) (fun _ _ h => by rw [h.1]; rfl) (fun _ U U' hal hh h => ⟨h.1, h.2.1.mv hal hh, h.2.2.1.al hal, h.2.2.2.1.al hal, h.2.2.2.2.1.mv hal hh, h.2.2.2.2.2.1.there hal hh, h.2.2.2.2.2.2⟩) (fun r U U' V V' h1 hal h2 h => Got.mv r U U' V V' h1 hal h2 h) ?_
  intro p e s m args below meth c s₁ X0 hexec hbytes hml hret hlk hnm hown hh0 W hP
  obtain ⟨rfl, hB, f1, f2, hA, s1, hz, l0, l2, hp⟩ := hP
  have c1 : Steps p.tables e below (s₁.setTop (entryFrame m #[.ref a, .ref b] 2)) (s₁.setTop (mkF m 0 #[.val (.ref a), .val (.ref b)] [])) := entry rfl
  have c2 : Steps p.tables e below (s₁.setTop (entryFrame m #[.ref a, .ref b] 2)) (s₁.setTop (mkF m 6 #[.val (.ref a), .val (.ref b)] [.null, .int (Int32.ofNat A.slots.size), .int 0, .ref b, .ref a])) := c1.trans (by
    refine XS.aloadN X0.here hexec rfl (hb hbytes d0) rfl rfl ?_
    refine XS.aloadN X0.here hexec rfl (hb hbytes d1) rfl rfl ?_
    refine iconstV X0.here hexec rfl 0 (hb hbytes d2) (by decide) ?_
    refine XS.aloadN X0.here hexec rfl (hb hbytes d3) rfl rfl ?_
    refine X0.alen hexec (hA.1.mv X0.warmed.alike hh0) rfl rfl (hb hbytes d4) ?_
    refine XS.aconstNull X0.here hexec rfl (hb hbytes d5) ?_
    exact Steps.refl _)
  obtain ⟨v3, T3, X3, E3, g3⟩ := X0.callN hexec (New4.law l a D fV fC b A z 0 A.slots.size) rfl hown (wks W (initW "java/lang/String" 27 New4.yN)) (W New4.tab (by simp only [site, List.mem_cons, List.mem_append, true_or, or_true])) (W := 0) (Nat.le_of_ble_eq_true rfl) (Nat.le_of_ble_eq_true rfl) (Nat.le_refl _) (by show 0 + A.slots.size ≤ A.slots.size; omega) (g := (mkF m 6 #[.val (.ref a), .val (.ref b)] [.null, .int (Int32.ofNat A.slots.size), .int (Int32.ofNat 0), .ref b, .ref a])) rfl (by rw [hml]; rfl) c2 (argsL := [.ref b, .int (Int32.ofNat 0), .int (Int32.ofNat A.slots.size), .null]) (rest := []) rfl rfl (by show 2 * 0 + 0 ≤ _; decide) (hb hbytes d6) (⟨rfl, hB.mv X0.warmed.alike hh0, f1.al X0.warmed.alike, f2.al X0.warmed.alike, hA.mv X0.warmed.alike hh0, s1.there X0.warmed.alike hh0, hz, l0, by omega, l2, fun i hi => by rw [Nat.zero_add]; exact hp i hi⟩)
  have e0 := Got.mv _ s₁ s _ _ hh0.symm (Vm.Alike.refl _) rfl E3
  obtain rfl := e0.1
  have c4 : Steps p.tables e below (s₁.setTop (entryFrame m #[.ref a, .ref b] 2)) (T3.setTop (mkF m 9 #[.val (.ref a), .val (.ref b)] [])) := g3
  exact ⟨T3, none, _, _, _, X3, by simp, rfl, by omega, (fun _ => rfl), e0, fun fs hl => c4.trans (X3.returnOut hexec hret (hb hbytes d9) hl)⟩
theorem pays {l : Launch} {R : Room} {p : Program} {e : Env} {below : List Frame} {s : State} {sargs : Array Value} {len W : Nat} (a : Addr) (D : Cell) (fV fC : Field) (b : Addr) (A : Cell) (z : Int32) (htab : tab.before sargs s = true) (hfr : 4 ≤ R.frames) (hlo : W + 65 ≤ R.locals) :
    Back l R p e below s sargs yN len W (fun A₁ a₁ => A₁.cells + 1 ≤ R.cells ∧ A₁.slots + A.slots.size ≤ R.slots ∧ P a D fV fC b A z a₁ A₁.U) (fun A₁ _ v₁ B₁ => E a D fV fC A v₁ A₁.U B₁.U ∧ B₁.locs = A₁.locs ++ [⟨a, fC.slot⟩, ⟨a, fV.slot⟩] ∧ B₁.cells = A₁.cells + 1 ∧ B₁.slots = A₁.slots + A.slots.size) :=
  (law l a D fV fC b A z).pays htab hfr (by omega)
end New1
end StrChars
namespace StrChars.Road
open Jvm Sem ClassFile Op Lib Jvm.Stand Jvm.Free Jvm.Free.XT
open Jvm.Lib.Cold (StaticIs)
abbrev ST : String := "java/lang/String"
/-- every table word that New1's law asks, flat -/
abbrev words : List Jvm.Cond := [.code New1.yN New1.yB 2 none, .initialized ST, .methodLink ST 27 New4.yN, .instanceMethod New4.yN,
  .code New4.yN New4.yB 6 none, .fieldLink ST 38 ST "COMPACT_STRINGS" "Z", .laysFinal ST ST "value" "[B", .fieldLink ST 9 ST "value" "[B", .laysFinal ST ST "coder" "B", .fieldLink ST 15 ST "coder" "B",
  .methodLink ST 1 Lib.objectInit, .instanceMethod Lib.objectInit, .code Lib.objectInit ⟨#[0xb1]⟩ 1 none, .methodLink ST 177 Cmp3.yN, .static Cmp3.yN, .methodLink ST 47 CodL.yN, .static CodL.yN,
  .code Cmp3.yN Cmp3.yB 6 (some (.array .byte)), .initialized U16, .arrayClass .byte, .methodLink U16 115 Cmp5.yN, .static Cmp5.yN, .code Cmp5.yN Cmp5.yB 7 (some .int), .code CodL.yN CodL.yB 2 (some .byte)]
theorem tab_of {a : Array Value} {s : State} (h : ∀ w ∈ words, w.before a s = true) : New1.tab.before a s = true := by
  have h5 : Cmp5.tab.before a s = true := unparts (wk h (.code Cmp5.yN Cmp5.yB 7 (some .int))) (wks h (.initialized Cmp5.yN.cls :: Cmp5.site))
  have hc : CodL.tab.before a s = true := unparts (wk h (.code CodL.yN CodL.yB 2 (some .byte))) (wks h (.initialized CodL.yN.cls :: CodL.site))
  have q5 : ∀ w ∈ Cmp5.tab :: words, w.before a s = true := fun w hw => (List.mem_cons.mp hw).elim (fun e => e ▸ h5) (h w)
  have h3 : Cmp3.tab.before a s = true := unparts (wk q5 (.code Cmp3.yN Cmp3.yB 6 (some (.array .byte)))) (wks q5 (.initialized Cmp3.yN.cls :: Cmp3.site))
  have q3 : ∀ w ∈ Cmp3.tab :: CodL.tab :: words, w.before a s = true := fun w hw => (List.mem_cons.mp hw).elim (fun e => e ▸ h3) fun hw => (List.mem_cons.mp hw).elim (fun e => e ▸ hc) (h w)
  have h4 : New4.tab.before a s = true := unparts (wk q3 (.code New4.yN New4.yB 6 none)) (wks q3 (.initialized New4.yN.cls :: New4.site))
  have q4 : ∀ w ∈ New4.tab :: words, w.before a s = true := fun w hw => (List.mem_cons.mp hw).elim (fun e => e ▸ h4) (h w)
  exact unparts (wk q4 (.code New1.yN New1.yB 2 none)) (wks q4 (.initialized New1.yN.cls :: New1.site))
/-- the words ride from the start Z to the walk's own state -/
theorem moved {Z s : State} {a0 args : Array Value} (hZ : Z.Warmed39 s.vm) (hw : ∀ d ∈ words, d.before a0 Z = true) : ∀ d ∈ words, d.before args s = true := fun d hd => by
  have q := hw d hd
  have t : ∀ d ∈ words, d = .arrayClass .byte ∨ (d.onTables && d.keepsFace) = true := by decide +kernel
  rcases t d hd with rfl | t
  · exact RoadKit.mvA hZ q
  · exact RoadKit.mv hZ q t
/-- WHAT COMES BACK, over the tables of the start Z: h the heap at the call, h' behind it -/
def Q (Z : State) (x : Addr) (A : Cell) (h : Heap) (v : Option Value) (h' : Heap) (L : List Loc) : Prop := v = none ∧ (∀ y ∈ L, y.base = x) ∧ RoadKit.Keep h h' [x] ∧ h'.size = h.size + 1 ∧ RoadKit.Exa Z h' x ST ∧ RoadKit.Fld Z h' x ST "value" "[B" (.ref h.size) ∧ RoadKit.Fld Z h' x ST "coder" "B" (.int 0) ∧
  (∃ V : Cell, RoadKit.Arr Z h' h.size V .byte ∧ V.vm = .none ∧ Z.vm.findClass "[B" = some V.cls ∧ V.slots.size = A.slots.size ∧ ∀ j, j < A.slots.size → V.slots[j]? = some (.int (lo8 (cv A j)))) ∧
  ∀ (O n d : String) (w : Value), RoadKit.Fld Z h x O n d w → RoadKit.slotOf Z O n d ≠ RoadKit.slotOf Z ST "value" "[B" → RoadKit.slotOf Z O n d ≠ RoadKit.slotOf Z ST "coder" "B" → RoadKit.Fld Z h' x O n d w
/-- **new String(chars) AT A CALL, IN THE ROAD'S FORM**: for specialBack behind newO: x the fresh String, b the char[] with the cell A -/
theorem back {p : Program} {l : Launch} {e : Env} {R : Room} {s : State} {args : Array Value} {below : List Frame} {len W : Nat} {Z : State} {a0 : Array Value} {h : Heap} (hZ : Z.Warmed39 s.vm) (hw : ∀ d ∈ words, d.before a0 Z = true) {kI : Nat} (wi : (Jvm.Cond.instantiable ST kI).before a0 Z = true)
    {x b : Addr} {A : Cell} {z : Int32} {v0 c0 : Value} (E : RoadKit.Exa Z h x ST) (V : RoadKit.Fld Z h x ST "value" "[B" v0) (C : RoadKit.Fld Z h x ST "coder" "B" c0) (K : RoadKit.Arr Z h b A .char) (hty : Typed .char A) (S : RoadKit.Sta Z h ST "COMPACT_STRINGS" "Z" (.int z)) (hz : ¬ z = 0)
    (l0 : 0 < A.slots.size) (l2 : A.slots.size ≤ 536870912) (hp : ∀ i, i < A.slots.size → ¬ 255 < cv A i) (hfr : 4 ≤ R.frames) (hlo : W + 65 ≤ R.locals) :
    Back l R p e below s args New1.yN len W (fun P a => a = #[.ref x, .ref b] ∧ P.U.heap = h ∧ P.cells + 1 ≤ R.cells ∧ P.slots + A.slots.size ≤ R.slots)
      (fun P _ v B => ∃ L, Q Z x A h v B.U.heap L ∧ B.locs = P.locs ++ L ∧ B.cells = P.cells + 1 ∧ B.slots = P.slots + A.slots.size) := by
  intro m meth c P g ig mk a X hg hsize hdg hW hn hp'
  obtain ⟨rfl, rfl, r1, r2⟩ := hp'
  have al : Z.vm.Alike P.U.vm := hZ.alike.trans X.warmed.alike
  obtain ⟨D, cfV, kV, iV, fV, hD, gV, stV, knV, obV, asV, slV⟩ := id V
  obtain ⟨D', cfC, kC, iC, fC, hD', gC, stC, -, -, asC, slC⟩ := id C
  cases hD.symm.trans hD'
  obtain ⟨D2, kD, e1, e2, e3, e4, e5⟩ := id E
  cases hD.symm.trans e1
  obtain ⟨c2, k2, i1, i2, i3, -⟩ := Cond.instantiable_spec wi
  cases e2.symm.trans i1
  cases e3.symm.trans i2
  obtain ⟨kU, u1, u2⟩ := al.2.2 _ _ e3
  have hB : Blank ST x D P.U := ⟨hD, ⟨knV, fun q hq => by rw [hq] at obV; cases obV⟩, by rw [al.findClass]; exact e2, kU, u1, by rw [u2]; exact i3, by rw [u2]; exact e5 i3⟩
  have F1 : Found ST "value" "[B" fV P.U := ⟨SBG.found_only al ⟨cfV, kV, iV, gV⟩, stV⟩
  have F2 : Found ST "coder" "B" fC P.U := ⟨SBG.found_only al ⟨cfC, kC, iC, gC⟩, stC⟩
  have hA : Ch b A P.U := ⟨⟨K.1, State.isArrayOf_alike al K.2.1, K.2.2, by omega⟩, hty⟩
  have hS : StaticIs P.U ST "COMPACT_STRINGS" "Z" (.int z) := by
    obtain ⟨cfS, iS, kS, fS, st, cS, t1, t2, t3, t4, t5, t6, t7⟩ := S
    exact StaticIs.there (s := { Z with heap := P.U.heap }) ⟨cfS, iS, kS, fS, st, cS, t1, t2, t3, t4, t5, (fun q => by rw [q] at t6; cases t6), t7⟩ al rfl
  obtain ⟨v, B, X', ⟨⟨hv, E', V', q1, q2, q3, q4, q5, q6, q7, q8, q9, q10, q11⟩, hl, hc, hs⟩, st⟩ := New1.pays x D fV fC b A z (tab_of (moved hZ hw)) hfr hlo m meth c P g ig mk _ X hg hsize hdg hW hn ⟨r1, r2, rfl, hB, F1, F2, hA, hS, hz, l0, l2, hp⟩
  have al' : Z.vm.Alike B.U.vm := hZ.alike.trans X'.warmed.alike
  have hsz : E'.slots.size = D.slots.size := by
    obtain ⟨-, -, -, kB, w1, w2, w3⟩ := q1
    obtain ⟨kB', y1, y2⟩ := al'.2.2 _ _ e3
    rw [q2.2.1] at w1
    cases w1.symm.trans y1
    rw [w3, e5 i3, y2]
  refine ⟨v, B, X', ⟨_, ⟨hv, ?_, ⟨by omega, fun y cy hy hn' => q10 y cy (by simpa using hn') hy, fun y cy hy => ?_⟩, q11, ⟨E', _, q1.1, by rw [q2.2.1]; exact e2, by rw [q2.2.1]; exact e3, by rw [q2.1]; exact obV, fun _ => by rw [hsz]; exact e5 i3⟩,
    ⟨E', cfV, kV, iV, fV, q1.1, gV, stV, by rw [q2.1]; exact knV, by rw [q2.1]; exact obV, by rw [q2.2.1]; exact asV, q3⟩, ⟨E', cfC, kC, iC, fC, q1.1, gC, stC, by rw [q2.1]; exact knV, by rw [q2.1]; exact obV, by rw [q2.2.1]; exact asC, q4⟩,
    ⟨V', ⟨q5.1, State.isArrayOf_alike al'.symm q5.2.1, q5.2.2.1⟩, q6, by rw [← al'.findClass]; exact q7, q8, fun j hj => by have := q9 j hj; rwa [Nat.zero_add] at this⟩, fun O n d w F n1 n2 => ?_⟩, hl, hc, hs⟩, st⟩
  · intro y hy
    simp only [List.mem_cons, List.not_mem_nil, or_false] at hy
    rcases hy with rfl | rfl <;> rfl
  · by_cases q : y = x
    · subst q
      cases hD.symm.trans hy
      exact ⟨E', q1.1, q2.2.1, q2.1, hsz⟩
    · exact ⟨cy, q10 y cy q hy, rfl, rfl, rfl⟩
  · obtain ⟨D3, cf, k, i, f, g1, g2, g3, g4, g5, g6, g7⟩ := F
    cases hD.symm.trans g1
    simp only [RoadKit.slotOf, g2, gV, gC, Option.map_some, Option.getD_some] at n1 n2
    exact ⟨E', cf, k, i, f, q1.1, g2, g3, by rw [q2.1]; exact g4, by rw [q2.1]; exact g5, by rw [q2.2.1]; exact g6, by rw [q2.2.2 f.slot (by simp [n1, n2])]; exact g7⟩
end StrChars.Road
namespace StrChars.Road
open Jvm Sem ClassFile Op Lib Jvm.Stand Jvm.Free Jvm.Free.XT
/-- WHAT COMES BACK, the byte[] as a list of values -/
def QA (Z : State) (x : Addr) (zn : Int32) (cs : List Int32) (h : Heap) (v : Option Value) (h' : Heap) (L : List Loc) : Prop := v = none ∧ (∀ y ∈ L, y.base = x) ∧ RoadKit.Keep h h' [x] ∧ h'.size = h.size + 1 ∧ RoadKit.Exa Z h' x ST ∧ RoadKit.Fld Z h' x ST "value" "[B" (.ref h.size) ∧ RoadKit.Fld Z h' x ST "coder" "B" (.int 0) ∧
  (∃ kb, Z.vm.findClass "[B" = some kb ∧ RoadKit.Arv Z h' h.size kb .byte zn (cs.map fun c => .int (lo8 c)) (.int 0)) ∧
  ∀ (O n d : String) (w : Value), RoadKit.Fld Z h x O n d w → RoadKit.slotOf Z O n d ≠ RoadKit.slotOf Z ST "value" "[B" → RoadKit.slotOf Z O n d ≠ RoadKit.slotOf Z ST "coder" "B" → RoadKit.Fld Z h' x O n d w
/-- **new String(chars) AT A CALL, THE ARRAYS AS LISTS**: the char[] at b holds cs, not empty, no char above 255 -/
theorem backArv {p : Program} {l : Launch} {e : Env} {R : Room} {s : State} {args : Array Value} {below : List Frame} {len W : Nat} {Z : State} {a0 : Array Value} {h : Heap} (hZ : Z.Warmed39 s.vm) (hw : ∀ d ∈ words, d.before a0 Z = true) {kI : Nat} (wi : (Jvm.Cond.instantiable ST kI).before a0 Z = true)
    {x b : Addr} {k : ClassId} {zn z : Int32} {cs : List Int32} {dv v0 c0 : Value} (E : RoadKit.Exa Z h x ST) (V : RoadKit.Fld Z h x ST "value" "[B" v0) (C : RoadKit.Fld Z h x ST "coder" "B" c0) (K : RoadKit.Arv Z h b k .char zn (cs.map Value.int) dv) (S : RoadKit.Sta Z h ST "COMPACT_STRINGS" "Z" (.int z)) (hz : ¬ z = 0)
    (hlen : zn.toNatClampNeg = cs.length) (h0 : 0 < cs.length) (hbig : cs.length ≤ 536870912) (hall : ∀ c ∈ cs, ¬ 255 < c) (hfr : 4 ≤ R.frames) (hlo : W + 65 ≤ R.locals) :
    Back l R p e below s args New1.yN len W (fun P a => a = #[.ref x, .ref b] ∧ P.U.heap = h ∧ P.cells + 1 ≤ R.cells ∧ P.slots + cs.length ≤ R.slots)
      (fun P _ v B => ∃ L, QA Z x zn cs h v B.U.heap L ∧ B.locs = P.locs ++ L ∧ B.cells = P.cells + 1 ∧ B.slots = P.slots + cs.length) := by
  obtain ⟨A, K1, K2, K3, K4, K5, K6⟩ := K
  have e : A.slots.size = cs.length := K3.trans hlen
  have hat : ∀ (i : Nat) (hi : i < cs.length), A.slots[i]? = some (.int cs[i]) := fun i hi => by rw [K5 i (by omega)]; simp [List.getD_eq_getElem?_getD, hi]
  have hcv : ∀ (i : Nat) (hi : i < cs.length), cv A i = cs[i] := fun i hi => by unfold cv; rw [hat i hi]
  have hty : Typed .char A := fun i v hv => by
    have hi : i < A.slots.size := (Array.getElem?_eq_some_iff.mp hv).1
    have q := K5 i hi
    rw [hv] at q
    rw [Option.some.inj q]
    exact K6 i hi
  refine Back.mono (back hZ hw wi E V C K1 hty S hz (by omega) (by omega) (fun i hi => by rw [hcv i (by omega)]; exact hall _ (List.getElem_mem _)) hfr hlo) (fun P a hp => ⟨hp.1, hp.2.1, hp.2.2.1, by rw [e]; exact hp.2.2.2⟩) (fun P a v B hp hq => ?_)
  obtain ⟨L, ⟨q1, q2, q3, q4, q5, q6, q7, ⟨V', v1, v2, v3, v4, v5⟩, q9⟩, hl, hc, hs⟩ := hq
  refine ⟨L, ⟨q1, q2, q3, q4, q5, q6, q7, ⟨V'.cls, v3, V', v1, rfl, by rw [v4, e, hlen], K4, fun i hi => ?_, fun i hi => ?_⟩, q9⟩, hl, hc, by rw [hs, e]⟩
  · have hi' : i < cs.length := by omega
    rw [v5 i (by omega), hcv i hi']; simp [List.getD_eq_getElem?_getD, hi']
  · have hi' : i < cs.length := by omega
    simp only [List.getD_eq_getElem?_getD, List.getElem?_map, List.getElem?_eq_getElem hi', Option.map_some, Option.getD_some]
    exact fits_lo8 _
end StrChars.Road
namespace StrChars.Road
open Jvm Sem ClassFile Op Lib Jvm.Stand Jvm.Free Jvm.Free.XT
/-- WHAT COMES BACK, in the writer's own shape -/
def QV (Z : State) (x : Addr) (N : Int32) (bs : List Int32) (h : Heap) (n0 : Nat) (v : Option Value) (h' : Heap) (L : List Loc) : Prop := v = none ∧ RoadKit.Fr n0 L ∧ RoadKit.Keep h h' [x] ∧ RoadKit.Exa Z h' x ST ∧ RoadKit.Fld Z h' x ST "coder" "B" (.int 0) ∧
  ∃ (t : Addr) (kb : ClassId), n0 ≤ t ∧ h.size ≤ t ∧ ¬ t = x ∧ RoadKit.Fld Z h' x ST "value" "[B" (.ref t) ∧ RoadKit.Arv Z h' t kb .byte N (bs.map Value.int) (.int 0)
/-- **new String(chars) AT A CALL, FOR THE WRITER**: a char[] of n known ints, each 0 to 255 -/
theorem backV {p : Program} {l : Launch} {e : Env} {R : Room} {s : State} {args : Array Value} {below : List Frame} {len W : Nat} {Z : State} {a0 : Array Value} {h : Heap} (hZ : Z.Warmed39 s.vm) (hw : ∀ d ∈ words, d.before a0 Z = true) {kI : Nat} (wi : (Jvm.Cond.instantiable ST kI).before a0 Z = true)
    {x b : Addr} {kC : ClassId} {cs bs : List Int32} {d v0 c0 : Value} {z N : Int32} {n n0 : Nat} (hx0 : n0 ≤ x) (hh0 : n0 ≤ h.size) (E : RoadKit.Exa Z h x ST) (V : RoadKit.Fld Z h x ST "value" "[B" v0) (C : RoadKit.Fld Z h x ST "coder" "B" c0) (K : RoadKit.Arv Z h b kC .char N (cs.map Value.int) d) (S : RoadKit.Sta Z h ST "COMPACT_STRINGS" "Z" (.int z)) (hz : ¬ z = 0)
    (hn : cs.length = n) (hN : N = Int32.ofNat n) (l0 : 0 < n) (l2 : n ≤ 4000) (hp : ∀ c ∈ cs, ¬ c < 0 ∧ ¬ (255 : Int32) < c) (hb : bs = cs.map (fun c => c.toInt8.toInt32)) (hfr : 4 ≤ R.frames) (hlo : W + 65 ≤ R.locals) :
    Back l R p e below s args (⟨"java/lang/String", "<init>", "([C)V"⟩ : MethodName) len W (fun P a => a = #[.ref x, .ref b] ∧ P.U.heap = h ∧ P.cells + 1 ≤ R.cells ∧ P.slots + n ≤ R.slots)
      (fun P _ v B => ∃ L, QV Z x N bs h n0 v B.U.heap L ∧ B.locs = P.locs ++ L ∧ B.cells = P.cells + 1 ∧ B.slots = P.slots + n) := by
  subst hn hN hb
  refine Back.mono (backArv hZ hw wi E V C K S hz (n32 (by omega)) l0 (by omega) (fun c hc => (hp c hc).2) hfr hlo) (fun P a hp => hp) (fun P a v B hp hq => ?_)
  obtain ⟨L, ⟨q1, q2, q3, q4, q5, q6, q7, ⟨kb, v1, v2⟩, q9⟩, hl, hc, hs⟩ := hq
  exact ⟨L, ⟨q1, fun y hy => by rw [q2 y hy]; exact hx0, q3, q5, q7, h.size, kb, hh0, Nat.le_refl _, Nat.ne_of_gt E.lt, q6, by rw [List.map_map]; exact v2⟩, hl, hc, hs⟩
end StrChars.Road
end Jvm.Pilot.@@N@@
namespace Jvm.Pilot.@@N@@
open Jvm Jvm.ClassFile Sem Op Lib Jvm.Free Jvm.Stand Jvm.LawKit Jvm.RoadKit Bundle Jvm.Pilot.@@N@@.Jvm.D
def own_R (s : State) (below : List Frame) (Q : Option Value → Heap → List Loc → Prop) (rc rs : Nat) (t : State) (o : Outcome) : Prop := t.status = .running ∧ Ended t below o ∧ ∃ v L, o = .returned v ∧ Q v t.heap L ∧ FrameEnd s o t L rc rs
def own_RW (s : State) (below : List Frame) (Q : Option Value → Heap → List Loc → Prop) (rc rs : Nat) (t : State) (o : Outcome) : Prop := t.status = .running ∧ Ended t below o ∧ ∃ v L, o = .returned v ∧ Q v t.heap L ∧ ReturnedEndW s o t L rc rs
def own_Go (p : Program) (e : Env) (below : List Frame) (Rr : State → Outcome → Prop) (S : State) : Prop := ∃ t o, Steps p.tables e below S t ∧ Rr t o
section OwnGo
variable {p : Program} {l : Launch} {e : Env} {R : Room} {s : State} {m : MethodId} {args : Array Value} {below : List Frame} {meth : Method} {c : Code} {T : State} {locs : List Loc} {cells slots : Nat} {Q : Option Value → Heap → List Loc → Prop} {rc rs : Nat} {S S' : State} {Rr : State → Outcome → Prop}
theorem own_bk (st : ∀ t, Steps p.tables e below S' t → Steps p.tables e below S t) (k : own_Go p e below Rr S') : own_Go p e below Rr S := by
  obtain ⟨t, o, h1, h2⟩ := k; exact ⟨t, o, st t h1, h2⟩
theorem own_seg (f : own_Go p e below Rr S' → own_Go p e below Rr S) (k : own_Go p e below Rr S') : own_Go p e below Rr S := f k
theorem own_tr (st : Steps p.tables e below S S') (k : own_Go p e below Rr S') : own_Go p e below Rr S := own_bk (fun t k => st.trans k) k
theorem own_retN (X : Stand p l e R s m args below meth c T locs cells slots) (hx : p.tables.exec = Jvm.exec) (hlk : meth.locks = false) {pc : Nat} {Ls : Array Slot} {z w : Int32} {t : FieldType} {rest : List Value} (hret : meth.sig.returnType = some t) (ht : t = .boolean ∨ t = .byte ∨ t = .char ∨ t = .short) (hd : decode c.code pc = .ok (.ireturn, 1)) (hz : nar t z = w)
    (hQ : Q (some (.int w)) T.heap locs) (hc : cells ≤ rc) (hs : slots ≤ rs) : own_Go p e below (own_R s below Q rc rs) (T.setTop (mkF m pc Ls (.int z :: rest))) := by
  subst hz
  obtain ⟨fs, hr, hrun, hended, hW, hsame⟩ := X.leave (v := some (.int (nar t z))) (fun h => by rw [hret] at h; cases h) hlk
  exact ⟨_, _, retN X hx hret ht hd hr, hrun, hended, _, _, rfl, hQ, ⟨_, rfl⟩, hW, hsame.mono hc hs⟩
theorem own_retNW {vm1 : Vm} {n1 : Nat} (hS : s.Since vm1 n1) (X : Stand p l e R (s.setVm vm1) m args below meth c T locs cells slots) (hn1 : n1 ≤ T.heap.size) (hx : p.tables.exec = Jvm.exec) (hlk : meth.locks = false) {pc : Nat} {Ls : Array Slot} {z w : Int32} {t : FieldType} {rest : List Value} (hret : meth.sig.returnType = some t) (ht : t = .boolean ∨ t = .byte ∨ t = .char ∨ t = .short) (hd : decode c.code pc = .ok (.ireturn, 1)) (hz : nar t z = w)
    (hQ : Q (some (.int w)) T.heap locs) (hc : cells ≤ rc) (hs : slots ≤ rs) : own_Go p e below (own_RW s below Q rc rs) (T.setTop (mkF m pc Ls (.int z :: rest))) := by
  subst hz
  obtain ⟨fs, hr, hrun, hended, hE⟩ := X.leaveW hS hn1 (v := some (.int (nar t z))) (fun h => by rw [hret] at h; cases h) hlk
  exact ⟨_, _, retN X hx hret ht hd hr, hrun, hended, _, _, rfl, hQ, hE.1, hE.2.1, hE.2.2.1, hE.2.2.2.mono hc hs⟩
theorem own_retI (X : Stand p l e R s m args below meth c T locs cells slots) (hx : p.tables.exec = Jvm.exec) (hlk : meth.locks = false) {pc : Nat} {Ls : Array Slot} {z : Int32} {rest : List Value} (hret : meth.sig.returnType = some .int) (hd : decode c.code pc = .ok (.ireturn, 1))
    (hQ : Q (some (.int z)) T.heap locs) (hc : cells ≤ rc) (hs : slots ≤ rs) : own_Go p e below (own_R s below Q rc rs) (T.setTop (mkF m pc Ls (.int z :: rest))) := by
  obtain ⟨fs, hr, hrun, hended, hW, hsame⟩ := X.leave (v := some (.int z)) (fun h => by rw [hret] at h; cases h) hlk
  exact ⟨_, _, retI X hx hret hd hr, hrun, hended, _, _, rfl, hQ, ⟨_, rfl⟩, hW, hsame.mono hc hs⟩
theorem own_retIW {vm1 : Vm} {n1 : Nat} (hS : s.Since vm1 n1) (X : Stand p l e R (s.setVm vm1) m args below meth c T locs cells slots) (hn1 : n1 ≤ T.heap.size) (hx : p.tables.exec = Jvm.exec) (hlk : meth.locks = false) {pc : Nat} {Ls : Array Slot} {z : Int32} {rest : List Value} (hret : meth.sig.returnType = some .int) (hd : decode c.code pc = .ok (.ireturn, 1))
    (hQ : Q (some (.int z)) T.heap locs) (hc : cells ≤ rc) (hs : slots ≤ rs) : own_Go p e below (own_RW s below Q rc rs) (T.setTop (mkF m pc Ls (.int z :: rest))) := by
  obtain ⟨fs, hr, hrun, hended, hE⟩ := X.leaveW hS hn1 (v := some (.int z)) (fun h => by rw [hret] at h; cases h) hlk
  exact ⟨_, _, retI X hx hret hd hr, hrun, hended, _, _, rfl, hQ, hE.1, hE.2.1, hE.2.2.1, hE.2.2.2.mono hc hs⟩
theorem own_retJ (X : Stand p l e R s m args below meth c T locs cells slots) (hx : p.tables.exec = Jvm.exec) (hlk : meth.locks = false) {pc : Nat} {Ls : Array Slot} {z : Int64} {rest : List Value} (hret : meth.sig.returnType = some .long) (hd : decode c.code pc = .ok (.lreturn, 1))
    (hQ : Q (some (.long z)) T.heap locs) (hc : cells ≤ rc) (hs : slots ≤ rs) : own_Go p e below (own_R s below Q rc rs) (T.setTop (mkF m pc Ls (.long z :: rest))) := by
  obtain ⟨fs, hr, hrun, hended, hW, hsame⟩ := X.leave (v := some (.long z)) (fun h => by rw [hret] at h; cases h) hlk
  exact ⟨_, _, retOut X hx hret rfl (Or.inr (Or.inl ⟨rfl, rfl, z, rfl⟩)) hd hr, hrun, hended, _, _, rfl, hQ, ⟨_, rfl⟩, hW, hsame.mono hc hs⟩
theorem own_retJW {vm1 : Vm} {n1 : Nat} (hS : s.Since vm1 n1) (X : Stand p l e R (s.setVm vm1) m args below meth c T locs cells slots) (hn1 : n1 ≤ T.heap.size) (hx : p.tables.exec = Jvm.exec) (hlk : meth.locks = false) {pc : Nat} {Ls : Array Slot} {z : Int64} {rest : List Value} (hret : meth.sig.returnType = some .long) (hd : decode c.code pc = .ok (.lreturn, 1))
    (hQ : Q (some (.long z)) T.heap locs) (hc : cells ≤ rc) (hs : slots ≤ rs) : own_Go p e below (own_RW s below Q rc rs) (T.setTop (mkF m pc Ls (.long z :: rest))) := by
  obtain ⟨fs, hr, hrun, hended, hE⟩ := X.leaveW hS hn1 (v := some (.long z)) (fun h => by rw [hret] at h; cases h) hlk
  exact ⟨_, _, retOut X hx hret rfl (Or.inr (Or.inl ⟨rfl, rfl, z, rfl⟩)) hd hr, hrun, hended, _, _, rfl, hQ, hE.1, hE.2.1, hE.2.2.1, hE.2.2.2.mono hc hs⟩
theorem own_retA (X : Stand p l e R s m args below meth c T locs cells slots) (hx : p.tables.exec = Jvm.exec) (hlk : meth.locks = false) {pc : Nat} {Ls : Array Slot} {w : Value} {t : FieldType} {rest : List Value} (hret : meth.sig.returnType = some t) (ht : t.isReference = true) (hw : w.isRef = true) (hn : narrow t w = w) (hd : decode c.code pc = .ok (.areturn, 1))
    (hQ : Q (some w) T.heap locs) (hc : cells ≤ rc) (hs : slots ≤ rs) : own_Go p e below (own_R s below Q rc rs) (T.setTop (mkF m pc Ls (w :: rest))) := by
  obtain ⟨fs, hr, hrun, hended, hW, hsame⟩ := X.leave (v := some w) (fun h => by rw [hret] at h; cases h) hlk
  exact ⟨_, _, retOut X hx hret hn (Or.inr (Or.inr (Or.inr (Or.inr ⟨rfl, ht, hw⟩)))) hd hr, hrun, hended, _, _, rfl, hQ, ⟨_, rfl⟩, hW, hsame.mono hc hs⟩
theorem own_retAW {vm1 : Vm} {n1 : Nat} (hS : s.Since vm1 n1) (X : Stand p l e R (s.setVm vm1) m args below meth c T locs cells slots) (hn1 : n1 ≤ T.heap.size) (hx : p.tables.exec = Jvm.exec) (hlk : meth.locks = false) {pc : Nat} {Ls : Array Slot} {w : Value} {t : FieldType} {rest : List Value} (hret : meth.sig.returnType = some t) (ht : t.isReference = true) (hw : w.isRef = true) (hn : narrow t w = w) (hd : decode c.code pc = .ok (.areturn, 1))
    (hQ : Q (some w) T.heap locs) (hc : cells ≤ rc) (hs : slots ≤ rs) : own_Go p e below (own_RW s below Q rc rs) (T.setTop (mkF m pc Ls (w :: rest))) := by
  obtain ⟨fs, hr, hrun, hended, hE⟩ := X.leaveW hS hn1 (v := some w) (fun h => by rw [hret] at h; cases h) hlk
  exact ⟨_, _, retOut X hx hret hn (Or.inr (Or.inr (Or.inr (Or.inr ⟨rfl, ht, hw⟩)))) hd hr, hrun, hended, _, _, rfl, hQ, hE.1, hE.2.1, hE.2.2.1, hE.2.2.2.mono hc hs⟩
theorem own_retV (X : Stand p l e R s m args below meth c T locs cells slots) (hx : p.tables.exec = Jvm.exec) (hlk : meth.locks = false) {pc : Nat} {Ls : Array Slot} (hret : meth.sig.returnType = none) (hd : decode c.code pc = .ok (.return_, 1))
    (hQ : Q none T.heap locs) (hc : cells ≤ rc) (hs : slots ≤ rs) : own_Go p e below (own_R s below Q rc rs) (T.setTop (mkF m pc Ls [])) := by
  obtain ⟨fs, hr, hrun, hended, hW, hsame⟩ := X.leave (v := none) (fun _ => rfl) hlk
  exact ⟨_, _, X.returnOut hx hret hd hr, hrun, hended, _, _, rfl, hQ, ⟨_, rfl⟩, hW, hsame.mono hc hs⟩
theorem own_retVW {vm1 : Vm} {n1 : Nat} (hS : s.Since vm1 n1) (X : Stand p l e R (s.setVm vm1) m args below meth c T locs cells slots) (hn1 : n1 ≤ T.heap.size) (hx : p.tables.exec = Jvm.exec) (hlk : meth.locks = false) {pc : Nat} {Ls : Array Slot} (hret : meth.sig.returnType = none) (hd : decode c.code pc = .ok (.return_, 1))
    (hQ : Q none T.heap locs) (hc : cells ≤ rc) (hs : slots ≤ rs) : own_Go p e below (own_RW s below Q rc rs) (T.setTop (mkF m pc Ls [])) := by
  obtain ⟨fs, hr, hrun, hended, hE⟩ := X.leaveW hS hn1 (v := none) (fun _ => rfl) hlk
  exact ⟨_, _, X.returnOut hx hret hd hr, hrun, hended, _, _, rfl, hQ, hE.1, hE.2.1, hE.2.2.1, hE.2.2.2.mono hc hs⟩
end OwnGo
/-- an enum constant of the start: what its static holds, its class, its ordinal -/
def own_E (Z : State) (h : Heap) (r : Addr) (C n d : String) (k : Int32) : Prop := Sta Z h C n d (.ref r) ∧ Exa Z h r C ∧ Fld Z h r "java/lang/Enum" "ordinal" "I" (.int k)
theorem own_E.ext {Z : State} {h h' : Heap} {r : Addr} {C n d : String} {k : Int32} (G : own_E Z h r C n d k) (E : Ext h h') : own_E Z h' r C n d k := ⟨G.1.ext E, G.2.1.ext E, G.2.2.ext E⟩
theorem own_E.ne {Z : State} {h : Heap} {r r' : Addr} {C n d C' n' d' : String} {k k' : Int32} (G : own_E Z h r C n d k) (G' : own_E Z h r' C' n' d' k') (q : k ≠ k') : r ≠ r' := Fld.ne G.2.2 G'.2.2 (fun e => q (Value.int.inj e))
theorem own_fldInt {args : Array Value} {s : State} {t : Term} {C n d : String} {k : Int32} {a : Addr} (h : (Jvm.Cond.eq (.field t C n d) (.int k)).value args s none s [] = some true) (ev : t.eval args s none [] s = some (.ref a)) : s.fieldOf? a C n d = some (.int k) := by
  obtain ⟨x, y, h1, h2, h3, h4⟩ := cmp_v (Or.inl h)
  have h5 : (Term.int k).eval args s none [] s = some (.int k) := Term.int_eval k
  cases h5.symm.trans h2
  obtain ⟨z, rfl⟩ := h4
  have h6 : z = k := gotT (Cond.eq_ints h1 h5) h
  subst h6
  rw [← fld_at ev]; exact h1
theorem own_eq1 {x y : Int32} (h : x = y) : if_icmp.holds .eq x y = true := (teq h).1
theorem own_c255 (x : Int32) : ¬ (x &&& (255 : Int32)).toUInt32.toUInt16.toUInt32.toInt32 < 0 ∧ ¬ (255 : Int32) < (x &&& (255 : Int32)).toUInt32.toUInt16.toUInt32.toInt32 := by
  rw [i2c_mask]
  have h := c_mask x 255 8 (by decide) (by decide)
  have e0 : (0 : Int32).toInt = 0 := by decide
  have e1 : (255 : Int32).toInt = 255 := by decide
  simp only [Int32.lt_iff_toInt_lt, e0, e1, h]
  have := Int.emod_nonneg x.toInt (show ((2 ^ 8 : Nat) : Int) ≠ 0 by decide)
  have := Int.emod_lt_of_pos x.toInt (show (0 : Int) < ((2 ^ 8 : Nat) : Int) by decide)
  constructor <;> omega
theorem own_nar (x : Int32) : nar .char (x.toUInt32.toUInt16.toUInt32.toInt32) = x.toUInt32.toUInt16.toUInt32.toInt32 := by simp only [nar, UInt32.toUInt32_toInt32, UInt16.toUInt16_toUInt32]
theorem own_n255 (x : Int32) : ¬ nar .char ((x &&& (255 : Int32)).toUInt32.toUInt16.toUInt32.toInt32) < 0 ∧ ¬ (255 : Int32) < nar .char ((x &&& (255 : Int32)).toUInt32.toUInt16.toUInt32.toInt32) := by rw [own_nar]; exact own_c255 x

theorem d4_0 : decode jdk_30_method_1_code 0 = .ok (.aload_n 0, 1) := by decide +kernel
theorem d4_1 : decode jdk_30_method_1_code 1 = .ok (.invokespecial 1, 3) := by decide +kernel
theorem d4_4 : decode jdk_30_method_1_code 4 = .ok (.return_, 1) := by decide +kernel
theorem ef_rmRec (m : MethodId) (x0 : Addr) : entryFrame m #[(.ref x0)] 1 = mkF m 0 #[.val (.ref x0)] [] := by first | (simp [entryFrame, mkF, argsToLocals, Value.category, maxLocals]; done) | rfl
def Q_rmRec (Z : State) (a : Addr) (h0 : Heap) (n0 : Nat) (v : Option Value) (h : Heap) (L : List Loc) : Prop := v = none ∧ Fr n0 L ∧ h = h0
set_option maxRecDepth 65536 in
set_option maxHeartbeats 40000000 in
theorem rmRec (l : Launch) (Z : State) (a0 : Array Value) (hw : ∀ d ∈ tables_1, d.before a0 Z = true) (ws : List Jvm.Cond) (a : Addr) (h0 : Heap) (n0 : Nat) (Z0 : n0 ≤ h0.size)  :
    MetFree l (⟨"java/lang/Record", "<init>", "()V"⟩ : MethodName) (head1 (Jvm.Cond.code (⟨"java/lang/Record", "<init>", "()V"⟩ : MethodName) jdk_30_method_1_code 1 none :: ws) ({ frames := 1, cells := 0, slots := 0, locals := 12 } : Room)) (fun as_ U_ => as_ = #[(.ref a)] ∧ Z.Warmed39 U_.vm ∧ U_.heap = h0) (fun _ _ _ _ _ => True) (fun _ U_ o_ U2_ => ∃ v_ L_, o_ = .returned v_ ∧ (Q_rmRec Z a h0 n0) v_ U2_.heap L_ ∧ FrameEnd U_ o_ U2_ L_ ({ frames := 1, cells := 0, slots := 0, locals := 12 } : Room).cells ({ frames := 1, cells := 0, slots := 0, locals := 12 } : Room).slots) := by
  refine MetFree.of_bodySF (plainFor_of_name (by first | (simp [plainName, overriddenIn]; done) | decide +kernel : plainName "java/lang/Record" = true)) hisR ?_
  intro p e s m args below meth c s₁ Bd hml0 hP hK
  obtain ⟨rfl, hZ, hh⟩ := hP
  have hx := Bd.exec
  have hby := Bd.bytes
  have hlk := Bd.notSynchronized
  have hml : c.maxLocals = 1 := hml0
  have hown : s.vm.findClass "java/lang/Record" = some m.cls := findClass_of_methodNamed Bd.named
  have hnm := (name_of_methodNamed Bd.named Bd.method).1
  have X0 : Stand p l e ({ frames := 1, cells := 0, slots := 0, locals := 12 } : Room) s m #[(.ref a)] below meth c s₁ [] 0 0 := Stand.of_body Bd
  have e0 : s₁.heap = h0 := by rw [← hh, Bd.state]; rfl
  have N0 := Fr.nil n0
  show own_Go p e below (own_R s below (Q_rmRec Z a h0 n0) ({ frames := 1, cells := 0, slots := 0, locals := 12 } : Room).cells ({ frames := 1, cells := 0, slots := 0, locals := 12 } : Room).slots) (s₁.setTop (entryFrame m #[(.ref a)] 1))
  refine own_bk (S' := (s₁.setTop (mkF m 0 #[rv a] []))) (fun t_ kont => castTop (ef_rmRec m (a)) kont) ?_
  refine own_bk (S' := (s₁.setTop (mkF m 1 #[rv a] [(.ref a)]))) (fun t_ kont => XS.aloadN X0.here hx rfl (hb hby d4_0) rfl rfl kont) ?_
  obtain ⟨T1, X2, e3, st4⟩ := initO X0 hx hZ hown (hw _ (List.mem_of_getElem? (i := 25) rfl)) (hw _ (List.mem_of_getElem? (i := 26) rfl)) (hw _ (List.mem_of_getElem? (i := 27) rfl)) e0 (g := (mkF m 1 #[rv a] [(.ref a)])) rfl (by rw [hml]; rfl) rfl (hb hby d4_1) (by decide) (W := 0) (by show 2 * 0 + _ ≤ _; exact Nat.le_of_eq rfl) (by decide)
  refine own_bk (S' := (T1.setTop (mkF m 4 #[rv a] []))) st4 ?_
  exact own_retV X2 hx hlk Bd.returns (hb hby d4_4) ⟨rfl, N0, e3⟩ (by decide) (by decide)
theorem d6_0 : decode jdk_31_method_11_code 0 = .ok (.aload_n 0, 1) := by decide +kernel
theorem d6_1 : decode jdk_31_method_11_code 1 = .ok (.ifnonnull 12, 3) := by decide +kernel
theorem d6_4 : decode jdk_31_method_11_code 4 = .ok (.new 84, 3) := by decide +kernel
theorem d6_7 : decode jdk_31_method_11_code 7 = .ok (.dup, 1) := by decide +kernel
theorem d6_8 : decode jdk_31_method_11_code 8 = .ok (.aload_n 1, 1) := by decide +kernel
theorem d6_9 : decode jdk_31_method_11_code 9 = .ok (.invokespecial 87, 3) := by decide +kernel
theorem d6_12 : decode jdk_31_method_11_code 12 = .ok (.athrow, 1) := by decide +kernel
theorem d6_13 : decode jdk_31_method_11_code 13 = .ok (.aload_n 0, 1) := by decide +kernel
theorem d6_14 : decode jdk_31_method_11_code 14 = .ok (.areturn, 1) := by decide +kernel
theorem ef_rmNN (m : MethodId) (x0 : Addr) (x1 : Addr) : entryFrame m #[(.ref x0), (.ref x1)] 2 = mkF m 0 #[.val (.ref x0), .val (.ref x1)] [] := by first | (simp [entryFrame, mkF, argsToLocals, Value.category, maxLocals]; done) | rfl
def Q_rmNN (Z : State) (x y : Addr) (h0 : Heap) (n0 : Nat) (v : Option Value) (h : Heap) (L : List Loc) : Prop := v = some (.ref x) ∧ Fr n0 L ∧ h = h0
set_option maxRecDepth 65536 in
set_option maxHeartbeats 40000000 in
theorem rmNN (l : Launch) (Z : State) (a0 : Array Value) (hw : ∀ d ∈ tables_1, d.before a0 Z = true) (ws : List Jvm.Cond) (x y : Addr) (h0 : Heap) (n0 : Nat) (Z0 : n0 ≤ h0.size)  :
    MetFree l (⟨"java/util/Objects", "requireNonNull", "(Ljava/lang/Object;Ljava/lang/String;)Ljava/lang/Object;"⟩ : MethodName) (head1 (Jvm.Cond.code (⟨"java/util/Objects", "requireNonNull", "(Ljava/lang/Object;Ljava/lang/String;)Ljava/lang/Object;"⟩ : MethodName) jdk_31_method_11_code 2 (some (.object "java/lang/Object")) :: ws) ({ frames := 0, cells := 0, slots := 0, locals := 0 } : Room)) (fun as_ U_ => as_ = #[(.ref x), (.ref y)] ∧ Z.Warmed39 U_.vm ∧ U_.heap = h0) (fun _ _ _ _ _ => True) (fun _ U_ o_ U2_ => ∃ v_ L_, o_ = .returned v_ ∧ (Q_rmNN Z x y h0 n0) v_ U2_.heap L_ ∧ FrameEnd U_ o_ U2_ L_ ({ frames := 0, cells := 0, slots := 0, locals := 0 } : Room).cells ({ frames := 0, cells := 0, slots := 0, locals := 0 } : Room).slots) := by
  refine MetFree.of_bodySF (plainFor_of_name (by first | (simp [plainName, overriddenIn]; done) | decide +kernel : plainName "java/util/Objects" = true)) hisR ?_
  intro p e s m args below meth c s₁ Bd hml0 hP hK
  obtain ⟨rfl, hZ, hh⟩ := hP
  have hx := Bd.exec
  have hby := Bd.bytes
  have hlk := Bd.notSynchronized
  have hml : c.maxLocals = 2 := hml0
  have hown : s.vm.findClass "java/util/Objects" = some m.cls := findClass_of_methodNamed Bd.named
  have hnm := (name_of_methodNamed Bd.named Bd.method).1
  have X0 : Stand p l e ({ frames := 0, cells := 0, slots := 0, locals := 0 } : Room) s m #[(.ref x), (.ref y)] below meth c s₁ [] 0 0 := Stand.of_body Bd
  have e0 : s₁.heap = h0 := by rw [← hh, Bd.state]; rfl
  have N0 := Fr.nil n0
  show own_Go p e below (own_R s below (Q_rmNN Z x y h0 n0) ({ frames := 0, cells := 0, slots := 0, locals := 0 } : Room).cells ({ frames := 0, cells := 0, slots := 0, locals := 0 } : Room).slots) (s₁.setTop (entryFrame m #[(.ref x), (.ref y)] 2))
  refine own_bk (S' := (s₁.setTop (mkF m 0 #[rv x, rv y] []))) (fun t_ kont => castTop (ef_rmNN m (x) (y)) kont) ?_
  refine own_bk (S' := (s₁.setTop (mkF m 1 #[rv x, rv y] [(.ref x)]))) (fun t_ kont => XS.aloadN X0.here hx rfl (hb hby d6_0) rfl rfl kont) ?_
  refine own_bk (S' := (s₁.setTop (mkF m 13 #[rv x, rv y] []))) (fun t_ kont => XS.ifnonnullYes X0.here hx rfl (pc0 := 1) (pc' := 13) rfl (hb hby d6_1) rfl (by decide) (by decide) kont) ?_
  refine own_bk (S' := (s₁.setTop (mkF m 14 #[rv x, rv y] [(.ref x)]))) (fun t_ kont => XS.aloadN X0.here hx rfl (hb hby d6_13) rfl rfl kont) ?_
  exact own_retA X0 hx hlk Bd.returns rfl rfl rfl (hb hby d6_14) ⟨rfl, N0, e0⟩ (by decide) (by decide)
theorem d1_0 : decode method_2_code 0 = .ok (.iload_n 0, 1) := by decide +kernel
theorem d1_1 : decode method_2_code 1 = .ok (.ifCond .ne 7, 3) := by decide +kernel
theorem d1_4 : decode method_2_code 4 = .ok (.getstatic 7, 3) := by decide +kernel
theorem d1_7 : decode method_2_code 7 = .ok (.areturn, 1) := by decide +kernel
theorem d1_8 : decode method_2_code 8 = .ok (.iload_n 0, 1) := by decide +kernel
theorem d1_9 : decode method_2_code 9 = .ok (.iconst 1, 1) := by decide +kernel
theorem d1_10 : decode method_2_code 10 = .ok (.if_icmp .ne 7, 3) := by decide +kernel
theorem d1_13 : decode method_2_code 13 = .ok (.getstatic 13, 3) := by decide +kernel
theorem d1_16 : decode method_2_code 16 = .ok (.areturn, 1) := by decide +kernel
theorem d1_17 : decode method_2_code 17 = .ok (.iload_n 0, 1) := by decide +kernel
theorem d1_18 : decode method_2_code 18 = .ok (.iconst 2, 1) := by decide +kernel
theorem d1_19 : decode method_2_code 19 = .ok (.if_icmp .ne 7, 3) := by decide +kernel
theorem d1_22 : decode method_2_code 22 = .ok (.getstatic 16, 3) := by decide +kernel
theorem d1_25 : decode method_2_code 25 = .ok (.areturn, 1) := by decide +kernel
theorem d1_26 : decode method_2_code 26 = .ok (.getstatic 19, 3) := by decide +kernel
theorem d1_29 : decode method_2_code 29 = .ok (.areturn, 1) := by decide +kernel
theorem ef_rm1 (m : MethodId) (x0 : Int32) : entryFrame m #[(.int x0)] 1 = mkF m 0 #[.val (.int x0)] [] := by first | (simp [entryFrame, mkF, argsToLocals, Value.category, maxLocals]; done) | rfl
def Q_rm1 (Z : State) (k : Int32) (r0 r1 r2 r3 rres : Addr) (h0 : Heap) (n0 : Nat) (v : Option Value) (h : Heap) (L : List Loc) : Prop := v = some (.ref rres) ∧ Fr n0 L ∧ h = h0
set_option maxRecDepth 65536 in
set_option maxHeartbeats 40000000 in
theorem rm1 (l : Launch) (Z : State) (a0 : Array Value) (hw : ∀ d ∈ tables_1, d.before a0 Z = true) (ws : List Jvm.Cond) (k : Int32) (r0 r1 r2 r3 rres : Addr) (h0 : Heap) (n0 : Nat) (Z0 : n0 ≤ h0.size) (S0 : Sta Z h0 "com/example/portcullis/portcullis/policy/WebDecision$Outcome" "ALLOW" "Lcom/example/portcullis/portcullis/policy/WebDecision$Outcome;" (.ref r0)) (S1 : Sta Z h0 "com/example/portcullis/portcullis/policy/WebDecision$Outcome" "DENY" "Lcom/example/portcullis/portcullis/policy/WebDecision$Outcome;" (.ref r1)) (S2 : Sta Z h0 "com/example/portcullis/portcullis/policy/WebDecision$Outcome" "AUTHENTICATE" "Lcom/example/portcullis/portcullis/policy/WebDecision$Outcome;" (.ref r2)) (S3 : Sta Z h0 "com/example/portcullis/portcullis/policy/WebDecision$Outcome" "REDIRECT" "Lcom/example/portcullis/portcullis/policy/WebDecision$Outcome;" (.ref r3)) (hv : (if k = 0 then r0 else if k = 1 then r1 else if k = 2 then r2 else r3) = rres) :
    MetFree l (⟨"com/example/portcullis/portcullis/policy/WebDecisionAllowedPinLaw", "outcomeOf", "(I)Lcom/example/portcullis/portcullis/policy/WebDecision$Outcome;"⟩ : MethodName) (head1 (Jvm.Cond.code (⟨"com/example/portcullis/portcullis/policy/WebDecisionAllowedPinLaw", "outcomeOf", "(I)Lcom/example/portcullis/portcullis/policy/WebDecision$Outcome;"⟩ : MethodName) method_2_code 1 (some (.object "com/example/portcullis/portcullis/policy/WebDecision$Outcome")) :: ws) ({ frames := 0, cells := 0, slots := 0, locals := 0 } : Room)) (fun as_ U_ => as_ = #[(.int k)] ∧ Z.Warmed39 U_.vm ∧ U_.heap = h0) (fun _ _ _ _ _ => True) (fun _ U_ o_ U2_ => ∃ v_ L_, o_ = .returned v_ ∧ (Q_rm1 Z k r0 r1 r2 r3 rres h0 n0) v_ U2_.heap L_ ∧ FrameEnd U_ o_ U2_ L_ ({ frames := 0, cells := 0, slots := 0, locals := 0 } : Room).cells ({ frames := 0, cells := 0, slots := 0, locals := 0 } : Room).slots) := by
  refine MetFree.of_bodySF (plainFor_of_name (by first | (simp [plainName, overriddenIn]; done) | decide +kernel : plainName "com/example/portcullis/portcullis/policy/WebDecisionAllowedPinLaw" = true)) hisR ?_
  intro p e s m args below meth c s₁ Bd hml0 hP hK
  obtain ⟨rfl, hZ, hh⟩ := hP
  have hx := Bd.exec
  have hby := Bd.bytes
  have hlk := Bd.notSynchronized
  have hml : c.maxLocals = 1 := hml0
  have hown : s.vm.findClass "com/example/portcullis/portcullis/policy/WebDecisionAllowedPinLaw" = some m.cls := findClass_of_methodNamed Bd.named
  have hnm := (name_of_methodNamed Bd.named Bd.method).1
  have X0 : Stand p l e ({ frames := 0, cells := 0, slots := 0, locals := 0 } : Room) s m #[(.int k)] below meth c s₁ [] 0 0 := Stand.of_body Bd
  have e0 : s₁.heap = h0 := by rw [← hh, Bd.state]; rfl
  have N0 := Fr.nil n0
  show own_Go p e below (own_R s below (Q_rm1 Z k r0 r1 r2 r3 rres h0 n0) ({ frames := 0, cells := 0, slots := 0, locals := 0 } : Room).cells ({ frames := 0, cells := 0, slots := 0, locals := 0 } : Room).slots) (s₁.setTop (entryFrame m #[(.int k)] 1))
  refine own_bk (S' := (s₁.setTop (mkF m 0 #[iv k] []))) (fun t_ kont => castTop (ef_rm1 m (k)) kont) ?_
  refine own_bk (S' := (s₁.setTop (mkF m 1 #[iv k] [(.int k)]))) (fun t_ kont => XS.iloadN X0.here hx rfl (hb hby d1_0) rfl kont) ?_
  by_cases hc1 : (k) = ((0 : Int32))
  · refine own_bk (S' := (s₁.setTop (mkF m 4 #[iv k] []))) (fun t_ kont => XS.ifNo X0.here hx rfl (hb hby d1_1) rfl ((if0 _ _).trans (teq (hc1)).2) kont) ?_
    obtain ⟨T2, X3, e4, st5⟩ := getS2 X0 hx hZ hown (host := "") (Or.inl (hw _ (List.mem_of_getElem? (i := 5) rfl))) Via.refl e0 S0 (g := (mkF m 4 #[iv k] [])) rfl (hb hby d1_4)
    refine own_bk (S' := (T2.setTop (mkF m 7 #[iv k] [(.ref r0)]))) st5 ?_
    exact own_retA X3 hx hlk Bd.returns rfl rfl rfl (hb hby d1_7) ⟨by rw [← hv]; simp [hc1], N0, e4⟩ (by decide) (by decide)
  · refine own_bk (S' := (s₁.setTop (mkF m 8 #[iv k] []))) (fun t_ kont => XS.ifYes X0.here hx rfl (pc0 := 1) (pc' := 8) rfl (hb hby d1_1) rfl ((if0 _ _).trans (feq (hc1)).2) (by decide) (by decide) kont) ?_
    refine own_bk (S' := (s₁.setTop (mkF m 9 #[iv k] [(.int k)]))) (fun t_ kont => XS.iloadN X0.here hx rfl (hb hby d1_8) rfl kont) ?_
    refine own_bk (S' := (s₁.setTop (mkF m 10 #[iv k] [(.int (1 : Int32)), (.int k)]))) (fun t_ kont => XS.iconst X0.here hx rfl (hb hby d1_9) kont) ?_
    by_cases hc6 : (k) = ((1 : Int32))
    · refine own_bk (S' := (s₁.setTop (mkF m 13 #[iv k] []))) (fun t_ kont => XS.icmpNo X0.here hx rfl (hb hby d1_10) rfl (teq (hc6)).2 kont) ?_
      obtain ⟨T7, X8, e9, st10⟩ := getS2 X0 hx hZ hown (host := "") (Or.inl (hw _ (List.mem_of_getElem? (i := 92) rfl))) Via.refl e0 S1 (g := (mkF m 13 #[iv k] [])) rfl (hb hby d1_13)
      refine own_bk (S' := (T7.setTop (mkF m 16 #[iv k] [(.ref r1)]))) st10 ?_
      exact own_retA X8 hx hlk Bd.returns rfl rfl rfl (hb hby d1_16) ⟨by rw [← hv]; simp [hc1, hc6], N0, e9⟩ (by decide) (by decide)
    · refine own_bk (S' := (s₁.setTop (mkF m 17 #[iv k] []))) (fun t_ kont => XS.icmpYes X0.here hx rfl (pc0 := 10) (pc' := 17) rfl (hb hby d1_10) rfl (feq (hc6)).2 (by decide) (by decide) kont) ?_
      refine own_bk (S' := (s₁.setTop (mkF m 18 #[iv k] [(.int k)]))) (fun t_ kont => XS.iloadN X0.here hx rfl (hb hby d1_17) rfl kont) ?_
      refine own_bk (S' := (s₁.setTop (mkF m 19 #[iv k] [(.int (2 : Int32)), (.int k)]))) (fun t_ kont => XS.iconst X0.here hx rfl (hb hby d1_18) kont) ?_
      by_cases hc11 : (k) = ((2 : Int32))
      · refine own_bk (S' := (s₁.setTop (mkF m 22 #[iv k] []))) (fun t_ kont => XS.icmpNo X0.here hx rfl (hb hby d1_19) rfl (teq (hc11)).2 kont) ?_
        obtain ⟨T12, X13, e14, st15⟩ := getS2 X0 hx hZ hown (host := "") (Or.inl (hw _ (List.mem_of_getElem? (i := 86) rfl))) Via.refl e0 S2 (g := (mkF m 22 #[iv k] [])) rfl (hb hby d1_22)
        refine own_bk (S' := (T12.setTop (mkF m 25 #[iv k] [(.ref r2)]))) st15 ?_
        exact own_retA X13 hx hlk Bd.returns rfl rfl rfl (hb hby d1_25) ⟨by rw [← hv]; simp [hc1, hc6, hc11], N0, e14⟩ (by decide) (by decide)
      · refine own_bk (S' := (s₁.setTop (mkF m 26 #[iv k] []))) (fun t_ kont => XS.icmpYes X0.here hx rfl (pc0 := 19) (pc' := 26) rfl (hb hby d1_19) rfl (feq (hc11)).2 (by decide) (by decide) kont) ?_
        obtain ⟨T16, X17, e18, st19⟩ := getS2 X0 hx hZ hown (host := "") (Or.inl (hw _ (List.mem_of_getElem? (i := 53) rfl))) Via.refl e0 S3 (g := (mkF m 26 #[iv k] [])) rfl (hb hby d1_26)
        refine own_bk (S' := (T16.setTop (mkF m 29 #[iv k] [(.ref r3)]))) st19 ?_
        exact own_retA X17 hx hlk Bd.returns rfl rfl rfl (hb hby d1_29) ⟨by rw [← hv]; simp [hc1, hc6, hc11], N0, e18⟩ (by decide) (by decide)
theorem d2_0 : decode method_3_code 0 = .ok (.iload_n 0, 1) := by decide +kernel
theorem d2_1 : decode method_3_code 1 = .ok (.ifCond .ne 7, 3) := by decide +kernel
theorem d2_4 : decode method_3_code 4 = .ok (.getstatic 22, 3) := by decide +kernel
theorem d2_7 : decode method_3_code 7 = .ok (.areturn, 1) := by decide +kernel
theorem d2_8 : decode method_3_code 8 = .ok (.iload_n 0, 1) := by decide +kernel
theorem d2_9 : decode method_3_code 9 = .ok (.iconst 1, 1) := by decide +kernel
theorem d2_10 : decode method_3_code 10 = .ok (.if_icmp .ne 7, 3) := by decide +kernel
theorem d2_13 : decode method_3_code 13 = .ok (.getstatic 28, 3) := by decide +kernel
theorem d2_16 : decode method_3_code 16 = .ok (.areturn, 1) := by decide +kernel
theorem d2_17 : decode method_3_code 17 = .ok (.iload_n 0, 1) := by decide +kernel
theorem d2_18 : decode method_3_code 18 = .ok (.iconst 2, 1) := by decide +kernel
theorem d2_19 : decode method_3_code 19 = .ok (.if_icmp .ne 7, 3) := by decide +kernel
theorem d2_22 : decode method_3_code 22 = .ok (.getstatic 31, 3) := by decide +kernel
theorem d2_25 : decode method_3_code 25 = .ok (.areturn, 1) := by decide +kernel
theorem d2_26 : decode method_3_code 26 = .ok (.iload_n 0, 1) := by decide +kernel
theorem d2_27 : decode method_3_code 27 = .ok (.iconst 3, 1) := by decide +kernel
theorem d2_28 : decode method_3_code 28 = .ok (.if_icmp .ne 7, 3) := by decide +kernel
theorem d2_31 : decode method_3_code 31 = .ok (.getstatic 34, 3) := by decide +kernel
theorem d2_34 : decode method_3_code 34 = .ok (.areturn, 1) := by decide +kernel
theorem d2_35 : decode method_3_code 35 = .ok (.iload_n 0, 1) := by decide +kernel
theorem d2_36 : decode method_3_code 36 = .ok (.iconst 4, 1) := by decide +kernel
theorem d2_37 : decode method_3_code 37 = .ok (.if_icmp .ne 7, 3) := by decide +kernel
theorem d2_40 : decode method_3_code 40 = .ok (.getstatic 37, 3) := by decide +kernel
theorem d2_43 : decode method_3_code 43 = .ok (.areturn, 1) := by decide +kernel
theorem d2_44 : decode method_3_code 44 = .ok (.iload_n 0, 1) := by decide +kernel
theorem d2_45 : decode method_3_code 45 = .ok (.iconst 5, 1) := by decide +kernel
theorem d2_46 : decode method_3_code 46 = .ok (.if_icmp .ne 7, 3) := by decide +kernel
theorem d2_49 : decode method_3_code 49 = .ok (.getstatic 40, 3) := by decide +kernel
theorem d2_52 : decode method_3_code 52 = .ok (.areturn, 1) := by decide +kernel
theorem d2_53 : decode method_3_code 53 = .ok (.getstatic 43, 3) := by decide +kernel
theorem d2_56 : decode method_3_code 56 = .ok (.areturn, 1) := by decide +kernel
theorem ef_rm2 (m : MethodId) (x0 : Int32) : entryFrame m #[(.int x0)] 1 = mkF m 0 #[.val (.int x0)] [] := by first | (simp [entryFrame, mkF, argsToLocals, Value.category, maxLocals]; done) | rfl
def Q_rm2 (Z : State) (k : Int32) (r0 r1 r2 r3 r4 r5 r6 rres : Addr) (h0 : Heap) (n0 : Nat) (v : Option Value) (h : Heap) (L : List Loc) : Prop := v = some (.ref rres) ∧ Fr n0 L ∧ h = h0
set_option maxRecDepth 65536 in
set_option maxHeartbeats 40000000 in
theorem rm2 (l : Launch) (Z : State) (a0 : Array Value) (hw : ∀ d ∈ tables_1, d.before a0 Z = true) (ws : List Jvm.Cond) (k : Int32) (r0 r1 r2 r3 r4 r5 r6 rres : Addr) (h0 : Heap) (n0 : Nat) (Z0 : n0 ≤ h0.size) (S0 : Sta Z h0 "com/example/portcullis/portcullis/policy/WebDecision$Reason" "UNCONSTRAINED" "Lcom/example/portcullis/portcullis/policy/WebDecision$Reason;" (.ref r0)) (S1 : Sta Z h0 "com/example/portcullis/portcullis/policy/WebDecision$Reason" "UNCOVERED" "Lcom/example/portcullis/portcullis/policy/WebDecision$Reason;" (.ref r1)) (S2 : Sta Z h0 "com/example/portcullis/portcullis/policy/WebDecision$Reason" "ROLE" "Lcom/example/portcullis/portcullis/policy/WebDecision$Reason;" (.ref r2)) (S3 : Sta Z h0 "com/example/portcullis/portcullis/policy/WebDecision$Reason" "NO_ROLE" "Lcom/example/portcullis/portcullis/policy/WebDecision$Reason;" (.ref r3)) (S4 : Sta Z h0 "com/example/portcullis/portcullis/policy/WebDecision$Reason" "EXCLUDED" "Lcom/example/portcullis/portcullis/policy/WebDecision$Reason;" (.ref r4)) (S5 : Sta Z h0 "com/example/portcullis/portcullis/policy/WebDecision$Reason" "LOGIN_REQUIRED" "Lcom/example/portcullis/portcullis/policy/WebDecision$Reason;" (.ref r5)) (S6 : Sta Z h0 "com/example/portcullis/portcullis/policy/WebDecision$Reason" "CONFIDENTIAL_REQUIRED" "Lcom/example/portcullis/portcullis/policy/WebDecision$Reason;" (.ref r6)) (hv : (if k = 0 then r0 else if k = 1 then r1 else if k = 2 then r2 else if k = 3 then r3 else if k = 4 then r4 else if k = 5 then r5 else r6) = rres) :
    MetFree l (⟨"com/example/portcullis/portcullis/policy/WebDecisionAllowedPinLaw", "reasonOf", "(I)Lcom/example/portcullis/portcullis/policy/WebDecision$Reason;"⟩ : MethodName) (head1 (Jvm.Cond.code (⟨"com/example/portcullis/portcullis/policy/WebDecisionAllowedPinLaw", "reasonOf", "(I)Lcom/example/portcullis/portcullis/policy/WebDecision$Reason;"⟩ : MethodName) method_3_code 1 (some (.object "com/example/portcullis/portcullis/policy/WebDecision$Reason")) :: ws) ({ frames := 0, cells := 0, slots := 0, locals := 0 } : Room)) (fun as_ U_ => as_ = #[(.int k)] ∧ Z.Warmed39 U_.vm ∧ U_.heap = h0) (fun _ _ _ _ _ => True) (fun _ U_ o_ U2_ => ∃ v_ L_, o_ = .returned v_ ∧ (Q_rm2 Z k r0 r1 r2 r3 r4 r5 r6 rres h0 n0) v_ U2_.heap L_ ∧ FrameEnd U_ o_ U2_ L_ ({ frames := 0, cells := 0, slots := 0, locals := 0 } : Room).cells ({ frames := 0, cells := 0, slots := 0, locals := 0 } : Room).slots) := by
  refine MetFree.of_bodySF (plainFor_of_name (by first | (simp [plainName, overriddenIn]; done) | decide +kernel : plainName "com/example/portcullis/portcullis/policy/WebDecisionAllowedPinLaw" = true)) hisR ?_
  intro p e s m args below meth c s₁ Bd hml0 hP hK
  obtain ⟨rfl, hZ, hh⟩ := hP
  have hx := Bd.exec
  have hby := Bd.bytes
  have hlk := Bd.notSynchronized
  have hml : c.maxLocals = 1 := hml0
  have hown : s.vm.findClass "com/example/portcullis/portcullis/policy/WebDecisionAllowedPinLaw" = some m.cls := findClass_of_methodNamed Bd.named
  have hnm := (name_of_methodNamed Bd.named Bd.method).1
  have X0 : Stand p l e ({ frames := 0, cells := 0, slots := 0, locals := 0 } : Room) s m #[(.int k)] below meth c s₁ [] 0 0 := Stand.of_body Bd
  have e0 : s₁.heap = h0 := by rw [← hh, Bd.state]; rfl
  have N0 := Fr.nil n0
  show own_Go p e below (own_R s below (Q_rm2 Z k r0 r1 r2 r3 r4 r5 r6 rres h0 n0) ({ frames := 0, cells := 0, slots := 0, locals := 0 } : Room).cells ({ frames := 0, cells := 0, slots := 0, locals := 0 } : Room).slots) (s₁.setTop (entryFrame m #[(.int k)] 1))
  refine own_bk (S' := (s₁.setTop (mkF m 0 #[iv k] []))) (fun t_ kont => castTop (ef_rm2 m (k)) kont) ?_
  refine own_bk (S' := (s₁.setTop (mkF m 1 #[iv k] [(.int k)]))) (fun t_ kont => XS.iloadN X0.here hx rfl (hb hby d2_0) rfl kont) ?_
  by_cases hc1 : (k) = ((0 : Int32))
  · refine own_bk (S' := (s₁.setTop (mkF m 4 #[iv k] []))) (fun t_ kont => XS.ifNo X0.here hx rfl (hb hby d2_1) rfl ((if0 _ _).trans (teq (hc1)).2) kont) ?_
    obtain ⟨T2, X3, e4, st5⟩ := getS2 X0 hx hZ hown (host := "") (Or.inl (hw _ (List.mem_of_getElem? (i := 82) rfl))) Via.refl e0 S0 (g := (mkF m 4 #[iv k] [])) rfl (hb hby d2_4)
    refine own_bk (S' := (T2.setTop (mkF m 7 #[iv k] [(.ref r0)]))) st5 ?_
    exact own_retA X3 hx hlk Bd.returns rfl rfl rfl (hb hby d2_7) ⟨by rw [← hv]; simp [hc1], N0, e4⟩ (by decide) (by decide)
  · refine own_bk (S' := (s₁.setTop (mkF m 8 #[iv k] []))) (fun t_ kont => XS.ifYes X0.here hx rfl (pc0 := 1) (pc' := 8) rfl (hb hby d2_1) rfl ((if0 _ _).trans (feq (hc1)).2) (by decide) (by decide) kont) ?_
    refine own_bk (S' := (s₁.setTop (mkF m 9 #[iv k] [(.int k)]))) (fun t_ kont => XS.iloadN X0.here hx rfl (hb hby d2_8) rfl kont) ?_
    refine own_bk (S' := (s₁.setTop (mkF m 10 #[iv k] [(.int (1 : Int32)), (.int k)]))) (fun t_ kont => XS.iconst X0.here hx rfl (hb hby d2_9) kont) ?_
    by_cases hc6 : (k) = ((1 : Int32))
    · refine own_bk (S' := (s₁.setTop (mkF m 13 #[iv k] []))) (fun t_ kont => XS.icmpNo X0.here hx rfl (hb hby d2_10) rfl (teq (hc6)).2 kont) ?_
      obtain ⟨T7, X8, e9, st10⟩ := getS2 X0 hx hZ hown (host := "") (Or.inl (hw _ (List.mem_of_getElem? (i := 84) rfl))) Via.refl e0 S1 (g := (mkF m 13 #[iv k] [])) rfl (hb hby d2_13)
      refine own_bk (S' := (T7.setTop (mkF m 16 #[iv k] [(.ref r1)]))) st10 ?_
      exact own_retA X8 hx hlk Bd.returns rfl rfl rfl (hb hby d2_16) ⟨by rw [← hv]; simp [hc1, hc6], N0, e9⟩ (by decide) (by decide)
    · refine own_bk (S' := (s₁.setTop (mkF m 17 #[iv k] []))) (fun t_ kont => XS.icmpYes X0.here hx rfl (pc0 := 10) (pc' := 17) rfl (hb hby d2_10) rfl (feq (hc6)).2 (by decide) (by decide) kont) ?_
      refine own_bk (S' := (s₁.setTop (mkF m 18 #[iv k] [(.int k)]))) (fun t_ kont => XS.iloadN X0.here hx rfl (hb hby d2_17) rfl kont) ?_
      refine own_bk (S' := (s₁.setTop (mkF m 19 #[iv k] [(.int (2 : Int32)), (.int k)]))) (fun t_ kont => XS.iconst X0.here hx rfl (hb hby d2_18) kont) ?_
      by_cases hc11 : (k) = ((2 : Int32))
      · refine own_bk (S' := (s₁.setTop (mkF m 22 #[iv k] []))) (fun t_ kont => XS.icmpNo X0.here hx rfl (hb hby d2_19) rfl (teq (hc11)).2 kont) ?_
        obtain ⟨T12, X13, e14, st15⟩ := getS2 X0 hx hZ hown (host := "") (Or.inl (hw _ (List.mem_of_getElem? (i := 57) rfl))) Via.refl e0 S2 (g := (mkF m 22 #[iv k] [])) rfl (hb hby d2_22)
        refine own_bk (S' := (T12.setTop (mkF m 25 #[iv k] [(.ref r2)]))) st15 ?_
        exact own_retA X13 hx hlk Bd.returns rfl rfl rfl (hb hby d2_25) ⟨by rw [← hv]; simp [hc1, hc6, hc11], N0, e14⟩ (by decide) (by decide)
      · refine own_bk (S' := (s₁.setTop (mkF m 26 #[iv k] []))) (fun t_ kont => XS.icmpYes X0.here hx rfl (pc0 := 19) (pc' := 26) rfl (hb hby d2_19) rfl (feq (hc11)).2 (by decide) (by decide) kont) ?_
        refine own_bk (S' := (s₁.setTop (mkF m 27 #[iv k] [(.int k)]))) (fun t_ kont => XS.iloadN X0.here hx rfl (hb hby d2_26) rfl kont) ?_
        refine own_bk (S' := (s₁.setTop (mkF m 28 #[iv k] [(.int (3 : Int32)), (.int k)]))) (fun t_ kont => XS.iconst X0.here hx rfl (hb hby d2_27) kont) ?_
        by_cases hc16 : (k) = ((3 : Int32))
        · refine own_bk (S' := (s₁.setTop (mkF m 31 #[iv k] []))) (fun t_ kont => XS.icmpNo X0.here hx rfl (hb hby d2_28) rfl (teq (hc16)).2 kont) ?_
          obtain ⟨T17, X18, e19, st20⟩ := getS2 X0 hx hZ hown (host := "") (Or.inl (hw _ (List.mem_of_getElem? (i := 11) rfl))) Via.refl e0 S3 (g := (mkF m 31 #[iv k] [])) rfl (hb hby d2_31)
          refine own_bk (S' := (T17.setTop (mkF m 34 #[iv k] [(.ref r3)]))) st20 ?_
          exact own_retA X18 hx hlk Bd.returns rfl rfl rfl (hb hby d2_34) ⟨by rw [← hv]; simp [hc1, hc6, hc11, hc16], N0, e19⟩ (by decide) (by decide)
        · refine own_bk (S' := (s₁.setTop (mkF m 35 #[iv k] []))) (fun t_ kont => XS.icmpYes X0.here hx rfl (pc0 := 28) (pc' := 35) rfl (hb hby d2_28) rfl (feq (hc16)).2 (by decide) (by decide) kont) ?_
          refine own_bk (S' := (s₁.setTop (mkF m 36 #[iv k] [(.int k)]))) (fun t_ kont => XS.iloadN X0.here hx rfl (hb hby d2_35) rfl kont) ?_
          refine own_bk (S' := (s₁.setTop (mkF m 37 #[iv k] [(.int (4 : Int32)), (.int k)]))) (fun t_ kont => XS.iconst X0.here hx rfl (hb hby d2_36) kont) ?_
          by_cases hc21 : (k) = ((4 : Int32))
          · refine own_bk (S' := (s₁.setTop (mkF m 40 #[iv k] []))) (fun t_ kont => XS.icmpNo X0.here hx rfl (hb hby d2_37) rfl (teq (hc21)).2 kont) ?_
            obtain ⟨T22, X23, e24, st25⟩ := getS2 X0 hx hZ hown (host := "") (Or.inl (hw _ (List.mem_of_getElem? (i := 55) rfl))) Via.refl e0 S4 (g := (mkF m 40 #[iv k] [])) rfl (hb hby d2_40)
            refine own_bk (S' := (T22.setTop (mkF m 43 #[iv k] [(.ref r4)]))) st25 ?_
            exact own_retA X23 hx hlk Bd.returns rfl rfl rfl (hb hby d2_43) ⟨by rw [← hv]; simp [hc1, hc6, hc11, hc16, hc21], N0, e24⟩ (by decide) (by decide)
          · refine own_bk (S' := (s₁.setTop (mkF m 44 #[iv k] []))) (fun t_ kont => XS.icmpYes X0.here hx rfl (pc0 := 37) (pc' := 44) rfl (hb hby d2_37) rfl (feq (hc21)).2 (by decide) (by decide) kont) ?_
            refine own_bk (S' := (s₁.setTop (mkF m 45 #[iv k] [(.int k)]))) (fun t_ kont => XS.iloadN X0.here hx rfl (hb hby d2_44) rfl kont) ?_
            refine own_bk (S' := (s₁.setTop (mkF m 46 #[iv k] [(.int (5 : Int32)), (.int k)]))) (fun t_ kont => XS.iconst X0.here hx rfl (hb hby d2_45) kont) ?_
            by_cases hc26 : (k) = ((5 : Int32))
            · refine own_bk (S' := (s₁.setTop (mkF m 49 #[iv k] []))) (fun t_ kont => XS.icmpNo X0.here hx rfl (hb hby d2_46) rfl (teq (hc26)).2 kont) ?_
              obtain ⟨T27, X28, e29, st30⟩ := getS2 X0 hx hZ hown (host := "") (Or.inl (hw _ (List.mem_of_getElem? (i := 88) rfl))) Via.refl e0 S5 (g := (mkF m 49 #[iv k] [])) rfl (hb hby d2_49)
              refine own_bk (S' := (T27.setTop (mkF m 52 #[iv k] [(.ref r5)]))) st30 ?_
              exact own_retA X28 hx hlk Bd.returns rfl rfl rfl (hb hby d2_52) ⟨by rw [← hv]; simp [hc1, hc6, hc11, hc16, hc21, hc26], N0, e29⟩ (by decide) (by decide)
            · refine own_bk (S' := (s₁.setTop (mkF m 53 #[iv k] []))) (fun t_ kont => XS.icmpYes X0.here hx rfl (pc0 := 46) (pc' := 53) rfl (hb hby d2_46) rfl (feq (hc26)).2 (by decide) (by decide) kont) ?_
              obtain ⟨T31, X32, e33, st34⟩ := getS2 X0 hx hZ hown (host := "") (Or.inl (hw _ (List.mem_of_getElem? (i := 90) rfl))) Via.refl e0 S6 (g := (mkF m 53 #[iv k] [])) rfl (hb hby d2_53)
              refine own_bk (S' := (T31.setTop (mkF m 56 #[iv k] [(.ref r6)]))) st34 ?_
              exact own_retA X32 hx hlk Bd.returns rfl rfl rfl (hb hby d2_56) ⟨by rw [← hv]; simp [hc1, hc6, hc11, hc16, hc21, hc26], N0, e33⟩ (by decide) (by decide)
theorem d3_0 : decode prog_65_method_1_code 0 = .ok (.aload_n 0, 1) := by decide +kernel
theorem d3_1 : decode prog_65_method_1_code 1 = .ok (.invokespecial 1, 3) := by decide +kernel
theorem d3_4 : decode prog_65_method_1_code 4 = .ok (.aload_n 2, 1) := by decide +kernel
theorem d3_5 : decode prog_65_method_1_code 5 = .ok (.ldc 7, 2) := by decide +kernel
theorem d3_7 : decode prog_65_method_1_code 7 = .ok (.invokestatic 9, 3) := by decide +kernel
theorem d3_10 : decode prog_65_method_1_code 10 = .ok (.pop, 1) := by decide +kernel
theorem d3_11 : decode prog_65_method_1_code 11 = .ok (.aload_n 3, 1) := by decide +kernel
theorem d3_12 : decode prog_65_method_1_code 12 = .ok (.ldc 15, 2) := by decide +kernel
theorem d3_14 : decode prog_65_method_1_code 14 = .ok (.invokestatic 9, 3) := by decide +kernel
theorem d3_17 : decode prog_65_method_1_code 17 = .ok (.pop, 1) := by decide +kernel
theorem d3_18 : decode prog_65_method_1_code 18 = .ok (.aload_n 0, 1) := by decide +kernel
theorem d3_19 : decode prog_65_method_1_code 19 = .ok (.aload_n 1, 1) := by decide +kernel
theorem d3_20 : decode prog_65_method_1_code 20 = .ok (.putfield 17, 3) := by decide +kernel
theorem d3_23 : decode prog_65_method_1_code 23 = .ok (.aload_n 0, 1) := by decide +kernel
theorem d3_24 : decode prog_65_method_1_code 24 = .ok (.aload_n 2, 1) := by decide +kernel
theorem d3_25 : decode prog_65_method_1_code 25 = .ok (.putfield 23, 3) := by decide +kernel
theorem d3_28 : decode prog_65_method_1_code 28 = .ok (.aload_n 0, 1) := by decide +kernel
theorem d3_29 : decode prog_65_method_1_code 29 = .ok (.aload_n 3, 1) := by decide +kernel
theorem d3_30 : decode prog_65_method_1_code 30 = .ok (.putfield 26, 3) := by decide +kernel
theorem d3_33 : decode prog_65_method_1_code 33 = .ok (.return_, 1) := by decide +kernel
theorem ef_rm3N (m : MethodId) (x0 : Addr) (x2 : Addr) (x3 : Addr) : entryFrame m #[(.ref x0), .null, (.ref x2), (.ref x3)] 4 = mkF m 0 #[.val (.ref x0), .val .null, .val (.ref x2), .val (.ref x3)] [] := by first | (simp [entryFrame, mkF, argsToLocals, Value.category, maxLocals]; done) | rfl
def Q_rm3N (Z : State) (a x1 x2 : Addr) (h0 : Heap) (n0 : Nat) (v : Option Value) (h : Heap) (L : List Loc) : Prop := v = none ∧ Fr n0 L ∧ Old Z n0 h ∧ Keep h0 h [a] ∧ Fld Z h a "com/example/portcullis/portcullis/policy/WebDecision" "outcome" "Lcom/example/portcullis/portcullis/policy/WebDecision$Outcome;" (.ref x1)
set_option maxRecDepth 65536 in
set_option maxHeartbeats 40000000 in
theorem rm3N (l : Launch) (Z : State) (a0 : Array Value) (hw : ∀ d ∈ tables_1, d.before a0 Z = true) (ws : List Jvm.Cond) (a x1 x2 : Addr) (h0 : Heap) (n0 : Nat) (Z0 : n0 ≤ h0.size) (O : Old Z n0 h0) (E : Exa Z h0 a "com/example/portcullis/portcullis/policy/WebDecision") (ag : n0 ≤ a) (F0 : Fld Z h0 a "com/example/portcullis/portcullis/policy/WebDecision" "pattern" "Ljava/lang/String;" .null) (F1 : Fld Z h0 a "com/example/portcullis/portcullis/policy/WebDecision" "outcome" "Lcom/example/portcullis/portcullis/policy/WebDecision$Outcome;" .null) (F2 : Fld Z h0 a "com/example/portcullis/portcullis/policy/WebDecision" "reason" "Lcom/example/portcullis/portcullis/policy/WebDecision$Reason;" .null) :
    MetFree l (⟨"com/example/portcullis/portcullis/policy/WebDecision", "<init>", "(Ljava/lang/String;Lcom/example/portcullis/portcullis/policy/WebDecision$Outcome;Lcom/example/portcullis/portcullis/policy/WebDecision$Reason;)V"⟩ : MethodName) (head1 (Jvm.Cond.code (⟨"com/example/portcullis/portcullis/policy/WebDecision", "<init>", "(Ljava/lang/String;Lcom/example/portcullis/portcullis/policy/WebDecision$Outcome;Lcom/example/portcullis/portcullis/policy/WebDecision$Reason;)V"⟩ : MethodName) prog_65_method_1_code 4 none :: ws) ({ frames := 2, cells := 4, slots := 60, locals := 40 } : Room)) (fun as_ U_ => as_ = #[(.ref a), .null, (.ref x1), (.ref x2)] ∧ Z.Warmed39 U_.vm ∧ U_.heap = h0) (fun _ _ _ _ _ => True) (fun _ U_ o_ U2_ => ∃ v_ L_, o_ = .returned v_ ∧ (Q_rm3N Z a x1 x2 h0 n0) v_ U2_.heap L_ ∧ ReturnedEndW U_ o_ U2_ L_ ({ frames := 2, cells := 4, slots := 60, locals := 40 } : Room).cells ({ frames := 2, cells := 4, slots := 60, locals := 40 } : Room).slots) := by
  refine MetFree.of_bodySF (plainFor_of_name (by first | (simp [plainName, overriddenIn]; done) | decide +kernel : plainName "com/example/portcullis/portcullis/policy/WebDecision" = true)) hisR ?_
  intro p e s m args below meth c s₁ Bd hml0 hP hK
  obtain ⟨rfl, hZ, hh⟩ := hP
  have hx := Bd.exec
  have hby := Bd.bytes
  have hlk := Bd.notSynchronized
  have hml : c.maxLocals = 4 := hml0
  have hown : s.vm.findClass "com/example/portcullis/portcullis/policy/WebDecision" = some m.cls := findClass_of_methodNamed Bd.named
  have hnm := (name_of_methodNamed Bd.named Bd.method).1
  have X0 : Stand p l e ({ frames := 2, cells := 4, slots := 60, locals := 40 } : Room) (s.setVm s.vm) m #[(.ref a), .null, (.ref x1), (.ref x2)] below meth c s₁ [] 0 0 := Stand.of_body Bd
  have hS : s.Since s.vm 0 := (State.WarmedH.refl s).since 0
  have hk0 : 0 ≤ h0.size := Nat.zero_le _
  have hwS : ∀ d ∈ Bundle.stringAtoms, d.before a0 Z = true := fun d hd => hw d ((by decide +kernel : ∀ d ∈ Bundle.stringAtoms, d ∈ tables_1) d hd)
  have e0 : s₁.heap = h0 := by rw [← hh, Bd.state]; rfl
  have N0 := Fr.nil n0
  show own_Go p e below (own_RW s below (Q_rm3N Z a x1 x2 h0 n0) ({ frames := 2, cells := 4, slots := 60, locals := 40 } : Room).cells ({ frames := 2, cells := 4, slots := 60, locals := 40 } : Room).slots) (s₁.setTop (entryFrame m #[(.ref a), .null, (.ref x1), (.ref x2)] 4))
  refine own_bk (S' := (s₁.setTop (mkF m 0 #[rv a, .val .null, rv x1, rv x2] []))) (fun t_ kont => castTop (ef_rm3N m (a) (x1) (x2)) kont) ?_
  refine own_bk (S' := (s₁.setTop (mkF m 1 #[rv a, .val .null, rv x1, rv x2] [(.ref a)]))) (fun t_ kont => XS.aloadN X0.here hx rfl (hb hby d3_0) rfl rfl kont) ?_
  obtain ⟨_, _, ⟨T1, L2, k3, n4⟩, -, X5, ⟨Lc6, hQ7, l8, y9, z10⟩, st11⟩ := X0.specialBack hx (y := (⟨"java/lang/Record", "<init>", "()V"⟩ : MethodName)) rfl hown (mvT hZ (hw _ (List.mem_of_getElem? (i := 20) rfl))) (mvT hZ (hw _ (List.mem_of_getElem? (i := 21) rfl))) (mvT hZ (hw _ (List.mem_of_getElem? (i := 24) rfl))) (by decide) (backOf (W := 0) (rmRec l Z a0 hw [] a h0 n0 Z0) hZ (hw _ (List.mem_of_getElem? (i := 24) rfl)) (hw _ (List.mem_of_getElem? (i := 23) rfl)) (by decide) (by decide)) (g := (mkF m 1 #[rv a, .val .null, rv x1, rv x2] [(.ref a)])) rfl (by rw [hml]; rfl) (Steps.refl _) (a := a) (argsL := []) (rest := []) (lenOf (by decide +kernel : parseMethodDescriptor "()V" = some ⟨[], none⟩) rfl) rfl (by show 2 * 0 + _ ≤ _; exact Nat.le_of_eq rfl) (hb hby d3_1) (fun _ _ => ⟨rfl, e0, (by decide : 0 + 0 ≤ _), (by decide : 0 + 0 ≤ _)⟩)
  dsimp only [Pt.U, Pt.locs, Pt.cells, Pt.slots] at X5 l8 y9 z10 st11 hQ7
  subst l8 y9 z10
  obtain ⟨rfl, N12, e13⟩ := hQ7
  have N14 := Fr.app N0 N12
  refine own_tr (S' := (T1.setTop (mkF m 4 #[rv a, .val .null, rv x1, rv x2] []))) st11 ?_
  refine own_bk (S' := (T1.setTop (mkF m 5 #[rv a, .val .null, rv x1, rv x2] [(.ref x1)]))) (fun t_ kont => XS.aloadN X5.here hx rfl (hb hby d3_4) rfl rfl kont) ?_
  obtain ⟨a15, T16, h17, k18, X19, e20, E21, hS, hk23, hZ, hown, st22⟩ := ldcS X5 hx hZ hown (hw _ (List.mem_of_getElem? (i := 28) rfl)) hwS e13 hS hk0 (g := (mkF m 5 #[rv a, .val .null, rv x1, rv x2] [(.ref x1)])) rfl (hb hby d3_5) (n := 28) (by decide +kernel) (by decide) (by decide) (by decide)
  have E24 := (E.ext E21)
  have F25 := (F0.ext E21)
  have F26 := (F1.ext E21)
  have F27 := (F2.ext E21)
  have Z28 := Nat.le_trans Z0 E21.1
  have O29 := O.ext E21
  have K30 := (Keep.refl h0 [a]).ext E21
  refine own_bk (S' := (T16.setTop (mkF m 7 #[rv a, .val .null, rv x1, rv x2] [(.ref a15), (.ref x1)]))) st22 ?_
  obtain ⟨_, _, ⟨T31, L32, k33, n34⟩, -, X35, ⟨Lc36, hQ37, l38, y39, z40⟩, st41⟩ := Jvm.LawKit.callS X19 hx (y := (⟨"java/util/Objects", "requireNonNull", "(Ljava/lang/Object;Ljava/lang/String;)Ljava/lang/Object;"⟩ : MethodName)) hown (mvT hZ (hw _ (List.mem_of_getElem? (i := 36) rfl))) (mvT hZ (hw _ (List.mem_of_getElem? (i := 37) rfl))) (mvT hZ (hw _ (List.mem_of_getElem? (i := 38) rfl))) (mvT hZ (hw _ (List.mem_of_getElem? (i := 39) rfl))) (by decide) (backOf (W := 0) (rmNN l Z a0 hw [] x1 a15 h17 n0 Z28) hZ (hw _ (List.mem_of_getElem? (i := 39) rfl)) (hw _ (List.mem_of_getElem? (i := 38) rfl)) (by decide) (by decide)) (g := (mkF m 7 #[rv a, .val .null, rv x1, rv x2] [(.ref a15), (.ref x1)])) rfl (by rw [hml]; rfl) (argsL := [(.ref x1), (.ref a15)]) (rest := []) (lenOf (by decide +kernel : parseMethodDescriptor "(Ljava/lang/Object;Ljava/lang/String;)Ljava/lang/Object;" = some ⟨[(.object "java/lang/Object"), (.object "java/lang/String")], some (.object "java/lang/Object")⟩) rfl) rfl (by show 2 * 0 + _ ≤ _; exact Nat.le_of_eq rfl) (hb hby d3_7) (fun _ _ => ⟨rfl, e20, (by decide : 2 + 0 ≤ _), (by decide : 32 + 0 ≤ _)⟩)
  dsimp only [Pt.U, Pt.locs, Pt.cells, Pt.slots] at X35 l38 y39 z40 st41 hQ37
  subst l38 y39 z40
  obtain ⟨rfl, N42, e43⟩ := hQ37
  have N44 := Fr.app N14 N42
  refine own_bk (S' := (T31.setTop (mkF m 10 #[rv a, .val .null, rv x1, rv x2] [(.ref x1)]))) st41 ?_
  refine own_bk (S' := (T31.setTop (mkF m 11 #[rv a, .val .null, rv x1, rv x2] []))) (fun t_ kont => XS.pop X35.here hx rfl (hb hby d3_10) rfl rfl kont) ?_
  refine own_bk (S' := (T31.setTop (mkF m 12 #[rv a, .val .null, rv x1, rv x2] [(.ref x2)]))) (fun t_ kont => XS.aloadN X35.here hx rfl (hb hby d3_11) rfl rfl kont) ?_
  obtain ⟨a45, T46, h47, k48, X49, e50, E51, hS, hk53, hZ, hown, st52⟩ := ldcS X35 hx hZ hown (hw _ (List.mem_of_getElem? (i := 40) rfl)) hwS e43 hS hk23 (g := (mkF m 12 #[rv a, .val .null, rv x1, rv x2] [(.ref x2)])) rfl (hb hby d3_12) (n := 24) (by decide +kernel) (by decide) (by decide) (by decide)
  have E54 := (E24.ext E51)
  have F55 := (F25.ext E51)
  have F56 := (F26.ext E51)
  have F57 := (F27.ext E51)
  have Z58 := Nat.le_trans Z28 E51.1
  have O59 := O29.ext E51
  have K60 := K30.ext E51
  refine own_bk (S' := (T46.setTop (mkF m 14 #[rv a, .val .null, rv x1, rv x2] [(.ref a45), (.ref x2)]))) st52 ?_
  obtain ⟨_, _, ⟨T61, L62, k63, n64⟩, -, X65, ⟨Lc66, hQ67, l68, y69, z70⟩, st71⟩ := Jvm.LawKit.callS X49 hx (y := (⟨"java/util/Objects", "requireNonNull", "(Ljava/lang/Object;Ljava/lang/String;)Ljava/lang/Object;"⟩ : MethodName)) hown (mvT hZ (hw _ (List.mem_of_getElem? (i := 36) rfl))) (mvT hZ (hw _ (List.mem_of_getElem? (i := 37) rfl))) (mvT hZ (hw _ (List.mem_of_getElem? (i := 38) rfl))) (mvT hZ (hw _ (List.mem_of_getElem? (i := 39) rfl))) (by decide) (backOf (W := 0) (rmNN l Z a0 hw [] x2 a45 h47 n0 Z58) hZ (hw _ (List.mem_of_getElem? (i := 39) rfl)) (hw _ (List.mem_of_getElem? (i := 38) rfl)) (by decide) (by decide)) (g := (mkF m 14 #[rv a, .val .null, rv x1, rv x2] [(.ref a45), (.ref x2)])) rfl (by rw [hml]; rfl) (argsL := [(.ref x2), (.ref a45)]) (rest := []) (lenOf (by decide +kernel : parseMethodDescriptor "(Ljava/lang/Object;Ljava/lang/String;)Ljava/lang/Object;" = some ⟨[(.object "java/lang/Object"), (.object "java/lang/String")], some (.object "java/lang/Object")⟩) rfl) rfl (by show 2 * 0 + _ ≤ _; exact Nat.le_of_eq rfl) (hb hby d3_14) (fun _ _ => ⟨rfl, e50, (by decide : 4 + 0 ≤ _), (by decide : 60 + 0 ≤ _)⟩)
  dsimp only [Pt.U, Pt.locs, Pt.cells, Pt.slots] at X65 l68 y69 z70 st71 hQ67
  subst l68 y69 z70
  obtain ⟨rfl, N72, e73⟩ := hQ67
  have N74 := Fr.app N44 N72
  refine own_bk (S' := (T61.setTop (mkF m 17 #[rv a, .val .null, rv x1, rv x2] [(.ref x2)]))) st71 ?_
  refine own_bk (S' := (T61.setTop (mkF m 18 #[rv a, .val .null, rv x1, rv x2] []))) (fun t_ kont => XS.pop X65.here hx rfl (hb hby d3_17) rfl rfl kont) ?_
  refine own_bk (S' := (T61.setTop (mkF m 19 #[rv a, .val .null, rv x1, rv x2] [(.ref a)]))) (fun t_ kont => XS.aloadN X65.here hx rfl (hb hby d3_18) rfl rfl kont) ?_
  refine own_bk (S' := (T61.setTop (mkF m 20 #[rv a, .val .null, rv x1, rv x2] [.null, (.ref a)]))) (fun t_ kont => XS.aloadN X65.here hx rfl (hb hby d3_19) rfl rfl kont) ?_
  obtain ⟨T75, h76, X77, e78, W79, st80⟩ := putF X65 hx hZ hown (host := "") (Or.inl (hw _ (List.mem_of_getElem? (i := 41) rfl))) Via.refl e73 F55 E54 (Or.inr ⟨(hw _ (List.mem_of_getElem? (i := 42) rfl)), rfl, hnm⟩) (hw _ (List.mem_of_getElem? (i := 15) rfl)) (ty := (.object "java/lang/String")) (by decide +kernel) rfl rfl (g := (mkF m 20 #[rv a, .val .null, rv x1, rv x2] [.null, (.ref a)])) rfl rfl (hb hby d3_20)
  have N81 := Fr.snoc X77 N74 ag
  have E82 := (E54.wr W79)
  have F83 := (F55.same W79)
  have F84 := (F56.other W79 (Or.inr (slot_ne (Or.inr (hw _ (List.mem_of_getElem? (i := 44) rfl))) (Or.inr (hw _ (List.mem_of_getElem? (i := 42) rfl))) (by decide) (show parseFieldDescriptor "Lcom/example/portcullis/portcullis/policy/WebDecision$Outcome;" = some (.object "com/example/portcullis/portcullis/policy/WebDecision$Outcome") from by decide +kernel) (show parseFieldDescriptor "Ljava/lang/String;" = some (.object "java/lang/String") from by decide +kernel))))
  have F85 := (F57.other W79 (Or.inr (slot_ne (Or.inr (hw _ (List.mem_of_getElem? (i := 46) rfl))) (Or.inr (hw _ (List.mem_of_getElem? (i := 42) rfl))) (by decide) (show parseFieldDescriptor "Lcom/example/portcullis/portcullis/policy/WebDecision$Reason;" = some (.object "com/example/portcullis/portcullis/policy/WebDecision$Reason") from by decide +kernel) (show parseFieldDescriptor "Ljava/lang/String;" = some (.object "java/lang/String") from by decide +kernel))))
  have Z86 := Nat.le_trans Z58 (Keep.of_wr W79).1
  have hk87 := Nat.le_trans hk53 (Keep.of_wr W79).1
  have O88 := O59.wr W79 ag
  have K89 := K60.wr W79 (Or.inl (List.mem_of_getElem? (i := 0) rfl))
  refine own_bk (S' := (T75.setTop (mkF m 23 #[rv a, .val .null, rv x1, rv x2] []))) st80 ?_
  refine own_bk (S' := (T75.setTop (mkF m 24 #[rv a, .val .null, rv x1, rv x2] [(.ref a)]))) (fun t_ kont => XS.aloadN X77.here hx rfl (hb hby d3_23) rfl rfl kont) ?_
  refine own_bk (S' := (T75.setTop (mkF m 25 #[rv a, .val .null, rv x1, rv x2] [(.ref x1), (.ref a)]))) (fun t_ kont => XS.aloadN X77.here hx rfl (hb hby d3_24) rfl rfl kont) ?_
  obtain ⟨T90, h91, X92, e93, W94, st95⟩ := putF X77 hx hZ hown (host := "") (Or.inl (hw _ (List.mem_of_getElem? (i := 43) rfl))) Via.refl e78 F84 E82 (Or.inr ⟨(hw _ (List.mem_of_getElem? (i := 44) rfl)), rfl, hnm⟩) (hw _ (List.mem_of_getElem? (i := 15) rfl)) (ty := (.object "com/example/portcullis/portcullis/policy/WebDecision$Outcome")) (by decide +kernel) rfl rfl (g := (mkF m 25 #[rv a, .val .null, rv x1, rv x2] [(.ref x1), (.ref a)])) rfl rfl (hb hby d3_25)
  have N96 := Fr.snoc X92 N81 ag
  have E97 := (E82.wr W94)
  have F98 := (F83.other W94 (Or.inr (slot_ne (Or.inr (hw _ (List.mem_of_getElem? (i := 42) rfl))) (Or.inr (hw _ (List.mem_of_getElem? (i := 44) rfl))) (by decide) (show parseFieldDescriptor "Ljava/lang/String;" = some (.object "java/lang/String") from by decide +kernel) (show parseFieldDescriptor "Lcom/example/portcullis/portcullis/policy/WebDecision$Outcome;" = some (.object "com/example/portcullis/portcullis/policy/WebDecision$Outcome") from by decide +kernel))))
  have F99 := (F84.same W94)
  have F100 := (F85.other W94 (Or.inr (slot_ne (Or.inr (hw _ (List.mem_of_getElem? (i := 46) rfl))) (Or.inr (hw _ (List.mem_of_getElem? (i := 44) rfl))) (by decide) (show parseFieldDescriptor "Lcom/example/portcullis/portcullis/policy/WebDecision$Reason;" = some (.object "com/example/portcullis/portcullis/policy/WebDecision$Reason") from by decide +kernel) (show parseFieldDescriptor "Lcom/example/portcullis/portcullis/policy/WebDecision$Outcome;" = some (.object "com/example/portcullis/portcullis/policy/WebDecision$Outcome") from by decide +kernel))))
  have Z101 := Nat.le_trans Z86 (Keep.of_wr W94).1
  have hk102 := Nat.le_trans hk87 (Keep.of_wr W94).1
  have O103 := O88.wr W94 ag
  have K104 := K89.wr W94 (Or.inl (List.mem_of_getElem? (i := 0) rfl))
  refine own_bk (S' := (T90.setTop (mkF m 28 #[rv a, .val .null, rv x1, rv x2] []))) st95 ?_
  refine own_bk (S' := (T90.setTop (mkF m 29 #[rv a, .val .null, rv x1, rv x2] [(.ref a)]))) (fun t_ kont => XS.aloadN X92.here hx rfl (hb hby d3_28) rfl rfl kont) ?_
  refine own_bk (S' := (T90.setTop (mkF m 30 #[rv a, .val .null, rv x1, rv x2] [(.ref x2), (.ref a)]))) (fun t_ kont => XS.aloadN X92.here hx rfl (hb hby d3_29) rfl rfl kont) ?_
  obtain ⟨T105, h106, X107, e108, W109, st110⟩ := putF X92 hx hZ hown (host := "") (Or.inl (hw _ (List.mem_of_getElem? (i := 45) rfl))) Via.refl e93 F100 E97 (Or.inr ⟨(hw _ (List.mem_of_getElem? (i := 46) rfl)), rfl, hnm⟩) (hw _ (List.mem_of_getElem? (i := 15) rfl)) (ty := (.object "com/example/portcullis/portcullis/policy/WebDecision$Reason")) (by decide +kernel) rfl rfl (g := (mkF m 30 #[rv a, .val .null, rv x1, rv x2] [(.ref x2), (.ref a)])) rfl rfl (hb hby d3_30)
  have N111 := Fr.snoc X107 N96 ag
  have E112 := (E97.wr W109)
  have F113 := (F98.other W109 (Or.inr (slot_ne (Or.inr (hw _ (List.mem_of_getElem? (i := 42) rfl))) (Or.inr (hw _ (List.mem_of_getElem? (i := 46) rfl))) (by decide) (show parseFieldDescriptor "Ljava/lang/String;" = some (.object "java/lang/String") from by decide +kernel) (show parseFieldDescriptor "Lcom/example/portcullis/portcullis/policy/WebDecision$Reason;" = some (.object "com/example/portcullis/portcullis/policy/WebDecision$Reason") from by decide +kernel))))
  have F114 := (F99.other W109 (Or.inr (slot_ne (Or.inr (hw _ (List.mem_of_getElem? (i := 44) rfl))) (Or.inr (hw _ (List.mem_of_getElem? (i := 46) rfl))) (by decide) (show parseFieldDescriptor "Lcom/example/portcullis/portcullis/policy/WebDecision$Outcome;" = some (.object "com/example/portcullis/portcullis/policy/WebDecision$Outcome") from by decide +kernel) (show parseFieldDescriptor "Lcom/example/portcullis/portcullis/policy/WebDecision$Reason;" = some (.object "com/example/portcullis/portcullis/policy/WebDecision$Reason") from by decide +kernel))))
  have F115 := (F100.same W109)
  have Z116 := Nat.le_trans Z101 (Keep.of_wr W109).1
  have hk117 := Nat.le_trans hk102 (Keep.of_wr W109).1
  have O118 := O103.wr W109 ag
  have K119 := K104.wr W109 (Or.inl (List.mem_of_getElem? (i := 0) rfl))
  refine own_bk (S' := (T105.setTop (mkF m 33 #[rv a, .val .null, rv x1, rv x2] []))) st110 ?_
  exact own_retVW hS X107 (by rw [show T105.heap = h106 from e108]; exact hk117) hx hlk Bd.returns (hb hby d3_33) (by rw [e108]; exact ⟨rfl, N111, O118, K119, F114⟩) (by decide) (by decide)
theorem ef_rm3R (m : MethodId) (x0 : Addr) (x1 : Addr) (x2 : Addr) (x3 : Addr) : entryFrame m #[(.ref x0), (.ref x1), (.ref x2), (.ref x3)] 4 = mkF m 0 #[.val (.ref x0), .val (.ref x1), .val (.ref x2), .val (.ref x3)] [] := by first | (simp [entryFrame, mkF, argsToLocals, Value.category, maxLocals]; done) | rfl
def Q_rm3R (Z : State) (a x0 x1 x2 : Addr) (h0 : Heap) (n0 : Nat) (v : Option Value) (h : Heap) (L : List Loc) : Prop := v = none ∧ Fr n0 L ∧ Old Z n0 h ∧ Keep h0 h [a] ∧ Fld Z h a "com/example/portcullis/portcullis/policy/WebDecision" "outcome" "Lcom/example/portcullis/portcullis/policy/WebDecision$Outcome;" (.ref x1)
set_option maxRecDepth 65536 in
set_option maxHeartbeats 40000000 in
theorem rm3R (l : Launch) (Z : State) (a0 : Array Value) (hw : ∀ d ∈ tables_1, d.before a0 Z = true) (ws : List Jvm.Cond) (a x0 x1 x2 : Addr) (h0 : Heap) (n0 : Nat) (Z0 : n0 ≤ h0.size) (O : Old Z n0 h0) (E : Exa Z h0 a "com/example/portcullis/portcullis/policy/WebDecision") (ag : n0 ≤ a) (F0 : Fld Z h0 a "com/example/portcullis/portcullis/policy/WebDecision" "pattern" "Ljava/lang/String;" .null) (F1 : Fld Z h0 a "com/example/portcullis/portcullis/policy/WebDecision" "outcome" "Lcom/example/portcullis/portcullis/policy/WebDecision$Outcome;" .null) (F2 : Fld Z h0 a "com/example/portcullis/portcullis/policy/WebDecision" "reason" "Lcom/example/portcullis/portcullis/policy/WebDecision$Reason;" .null) :
    MetFree l (⟨"com/example/portcullis/portcullis/policy/WebDecision", "<init>", "(Ljava/lang/String;Lcom/example/portcullis/portcullis/policy/WebDecision$Outcome;Lcom/example/portcullis/portcullis/policy/WebDecision$Reason;)V"⟩ : MethodName) (head1 (Jvm.Cond.code (⟨"com/example/portcullis/portcullis/policy/WebDecision", "<init>", "(Ljava/lang/String;Lcom/example/portcullis/portcullis/policy/WebDecision$Outcome;Lcom/example/portcullis/portcullis/policy/WebDecision$Reason;)V"⟩ : MethodName) prog_65_method_1_code 4 none :: ws) ({ frames := 2, cells := 4, slots := 60, locals := 40 } : Room)) (fun as_ U_ => as_ = #[(.ref a), (.ref x0), (.ref x1), (.ref x2)] ∧ Z.Warmed39 U_.vm ∧ U_.heap = h0) (fun _ _ _ _ _ => True) (fun _ U_ o_ U2_ => ∃ v_ L_, o_ = .returned v_ ∧ (Q_rm3R Z a x0 x1 x2 h0 n0) v_ U2_.heap L_ ∧ ReturnedEndW U_ o_ U2_ L_ ({ frames := 2, cells := 4, slots := 60, locals := 40 } : Room).cells ({ frames := 2, cells := 4, slots := 60, locals := 40 } : Room).slots) := by
  refine MetFree.of_bodySF (plainFor_of_name (by first | (simp [plainName, overriddenIn]; done) | decide +kernel : plainName "com/example/portcullis/portcullis/policy/WebDecision" = true)) hisR ?_
  intro p e s m args below meth c s₁ Bd hml0 hP hK
  obtain ⟨rfl, hZ, hh⟩ := hP
  have hx := Bd.exec
  have hby := Bd.bytes
  have hlk := Bd.notSynchronized
  have hml : c.maxLocals = 4 := hml0
  have hown : s.vm.findClass "com/example/portcullis/portcullis/policy/WebDecision" = some m.cls := findClass_of_methodNamed Bd.named
  have hnm := (name_of_methodNamed Bd.named Bd.method).1
  have X0 : Stand p l e ({ frames := 2, cells := 4, slots := 60, locals := 40 } : Room) (s.setVm s.vm) m #[(.ref a), (.ref x0), (.ref x1), (.ref x2)] below meth c s₁ [] 0 0 := Stand.of_body Bd
  have hS : s.Since s.vm 0 := (State.WarmedH.refl s).since 0
  have hk0 : 0 ≤ h0.size := Nat.zero_le _
  have hwS : ∀ d ∈ Bundle.stringAtoms, d.before a0 Z = true := fun d hd => hw d ((by decide +kernel : ∀ d ∈ Bundle.stringAtoms, d ∈ tables_1) d hd)
  have e0 : s₁.heap = h0 := by rw [← hh, Bd.state]; rfl
  have N0 := Fr.nil n0
  show own_Go p e below (own_RW s below (Q_rm3R Z a x0 x1 x2 h0 n0) ({ frames := 2, cells := 4, slots := 60, locals := 40 } : Room).cells ({ frames := 2, cells := 4, slots := 60, locals := 40 } : Room).slots) (s₁.setTop (entryFrame m #[(.ref a), (.ref x0), (.ref x1), (.ref x2)] 4))
  refine own_bk (S' := (s₁.setTop (mkF m 0 #[rv a, rv x0, rv x1, rv x2] []))) (fun t_ kont => castTop (ef_rm3R m (a) (x0) (x1) (x2)) kont) ?_
  refine own_bk (S' := (s₁.setTop (mkF m 1 #[rv a, rv x0, rv x1, rv x2] [(.ref a)]))) (fun t_ kont => XS.aloadN X0.here hx rfl (hb hby d3_0) rfl rfl kont) ?_
  obtain ⟨_, _, ⟨T1, L2, k3, n4⟩, -, X5, ⟨Lc6, hQ7, l8, y9, z10⟩, st11⟩ := X0.specialBack hx (y := (⟨"java/lang/Record", "<init>", "()V"⟩ : MethodName)) rfl hown (mvT hZ (hw _ (List.mem_of_getElem? (i := 20) rfl))) (mvT hZ (hw _ (List.mem_of_getElem? (i := 21) rfl))) (mvT hZ (hw _ (List.mem_of_getElem? (i := 24) rfl))) (by decide) (backOf (W := 0) (rmRec l Z a0 hw [] a h0 n0 Z0) hZ (hw _ (List.mem_of_getElem? (i := 24) rfl)) (hw _ (List.mem_of_getElem? (i := 23) rfl)) (by decide) (by decide)) (g := (mkF m 1 #[rv a, rv x0, rv x1, rv x2] [(.ref a)])) rfl (by rw [hml]; rfl) (Steps.refl _) (a := a) (argsL := []) (rest := []) (lenOf (by decide +kernel : parseMethodDescriptor "()V" = some ⟨[], none⟩) rfl) rfl (by show 2 * 0 + _ ≤ _; exact Nat.le_of_eq rfl) (hb hby d3_1) (fun _ _ => ⟨rfl, e0, (by decide : 0 + 0 ≤ _), (by decide : 0 + 0 ≤ _)⟩)
  dsimp only [Pt.U, Pt.locs, Pt.cells, Pt.slots] at X5 l8 y9 z10 st11 hQ7
  subst l8 y9 z10
  obtain ⟨rfl, N12, e13⟩ := hQ7
  have N14 := Fr.app N0 N12
  refine own_tr (S' := (T1.setTop (mkF m 4 #[rv a, rv x0, rv x1, rv x2] []))) st11 ?_
  refine own_bk (S' := (T1.setTop (mkF m 5 #[rv a, rv x0, rv x1, rv x2] [(.ref x1)]))) (fun t_ kont => XS.aloadN X5.here hx rfl (hb hby d3_4) rfl rfl kont) ?_
  obtain ⟨a15, T16, h17, k18, X19, e20, E21, hS, hk23, hZ, hown, st22⟩ := ldcS X5 hx hZ hown (hw _ (List.mem_of_getElem? (i := 28) rfl)) hwS e13 hS hk0 (g := (mkF m 5 #[rv a, rv x0, rv x1, rv x2] [(.ref x1)])) rfl (hb hby d3_5) (n := 28) (by decide +kernel) (by decide) (by decide) (by decide)
  have E24 := (E.ext E21)
  have F25 := (F0.ext E21)
  have F26 := (F1.ext E21)
  have F27 := (F2.ext E21)
  have Z28 := Nat.le_trans Z0 E21.1
  have O29 := O.ext E21
  have K30 := (Keep.refl h0 [a]).ext E21
  refine own_bk (S' := (T16.setTop (mkF m 7 #[rv a, rv x0, rv x1, rv x2] [(.ref a15), (.ref x1)]))) st22 ?_
  obtain ⟨_, _, ⟨T31, L32, k33, n34⟩, -, X35, ⟨Lc36, hQ37, l38, y39, z40⟩, st41⟩ := Jvm.LawKit.callS X19 hx (y := (⟨"java/util/Objects", "requireNonNull", "(Ljava/lang/Object;Ljava/lang/String;)Ljava/lang/Object;"⟩ : MethodName)) hown (mvT hZ (hw _ (List.mem_of_getElem? (i := 36) rfl))) (mvT hZ (hw _ (List.mem_of_getElem? (i := 37) rfl))) (mvT hZ (hw _ (List.mem_of_getElem? (i := 38) rfl))) (mvT hZ (hw _ (List.mem_of_getElem? (i := 39) rfl))) (by decide) (backOf (W := 0) (rmNN l Z a0 hw [] x1 a15 h17 n0 Z28) hZ (hw _ (List.mem_of_getElem? (i := 39) rfl)) (hw _ (List.mem_of_getElem? (i := 38) rfl)) (by decide) (by decide)) (g := (mkF m 7 #[rv a, rv x0, rv x1, rv x2] [(.ref a15), (.ref x1)])) rfl (by rw [hml]; rfl) (argsL := [(.ref x1), (.ref a15)]) (rest := []) (lenOf (by decide +kernel : parseMethodDescriptor "(Ljava/lang/Object;Ljava/lang/String;)Ljava/lang/Object;" = some ⟨[(.object "java/lang/Object"), (.object "java/lang/String")], some (.object "java/lang/Object")⟩) rfl) rfl (by show 2 * 0 + _ ≤ _; exact Nat.le_of_eq rfl) (hb hby d3_7) (fun _ _ => ⟨rfl, e20, (by decide : 2 + 0 ≤ _), (by decide : 32 + 0 ≤ _)⟩)
  dsimp only [Pt.U, Pt.locs, Pt.cells, Pt.slots] at X35 l38 y39 z40 st41 hQ37
  subst l38 y39 z40
  obtain ⟨rfl, N42, e43⟩ := hQ37
  have N44 := Fr.app N14 N42
  refine own_bk (S' := (T31.setTop (mkF m 10 #[rv a, rv x0, rv x1, rv x2] [(.ref x1)]))) st41 ?_
  refine own_bk (S' := (T31.setTop (mkF m 11 #[rv a, rv x0, rv x1, rv x2] []))) (fun t_ kont => XS.pop X35.here hx rfl (hb hby d3_10) rfl rfl kont) ?_
  refine own_bk (S' := (T31.setTop (mkF m 12 #[rv a, rv x0, rv x1, rv x2] [(.ref x2)]))) (fun t_ kont => XS.aloadN X35.here hx rfl (hb hby d3_11) rfl rfl kont) ?_
  obtain ⟨a45, T46, h47, k48, X49, e50, E51, hS, hk53, hZ, hown, st52⟩ := ldcS X35 hx hZ hown (hw _ (List.mem_of_getElem? (i := 40) rfl)) hwS e43 hS hk23 (g := (mkF m 12 #[rv a, rv x0, rv x1, rv x2] [(.ref x2)])) rfl (hb hby d3_12) (n := 24) (by decide +kernel) (by decide) (by decide) (by decide)
  have E54 := (E24.ext E51)
  have F55 := (F25.ext E51)
  have F56 := (F26.ext E51)
  have F57 := (F27.ext E51)
  have Z58 := Nat.le_trans Z28 E51.1
  have O59 := O29.ext E51
  have K60 := K30.ext E51
  refine own_bk (S' := (T46.setTop (mkF m 14 #[rv a, rv x0, rv x1, rv x2] [(.ref a45), (.ref x2)]))) st52 ?_
  obtain ⟨_, _, ⟨T61, L62, k63, n64⟩, -, X65, ⟨Lc66, hQ67, l68, y69, z70⟩, st71⟩ := Jvm.LawKit.callS X49 hx (y := (⟨"java/util/Objects", "requireNonNull", "(Ljava/lang/Object;Ljava/lang/String;)Ljava/lang/Object;"⟩ : MethodName)) hown (mvT hZ (hw _ (List.mem_of_getElem? (i := 36) rfl))) (mvT hZ (hw _ (List.mem_of_getElem? (i := 37) rfl))) (mvT hZ (hw _ (List.mem_of_getElem? (i := 38) rfl))) (mvT hZ (hw _ (List.mem_of_getElem? (i := 39) rfl))) (by decide) (backOf (W := 0) (rmNN l Z a0 hw [] x2 a45 h47 n0 Z58) hZ (hw _ (List.mem_of_getElem? (i := 39) rfl)) (hw _ (List.mem_of_getElem? (i := 38) rfl)) (by decide) (by decide)) (g := (mkF m 14 #[rv a, rv x0, rv x1, rv x2] [(.ref a45), (.ref x2)])) rfl (by rw [hml]; rfl) (argsL := [(.ref x2), (.ref a45)]) (rest := []) (lenOf (by decide +kernel : parseMethodDescriptor "(Ljava/lang/Object;Ljava/lang/String;)Ljava/lang/Object;" = some ⟨[(.object "java/lang/Object"), (.object "java/lang/String")], some (.object "java/lang/Object")⟩) rfl) rfl (by show 2 * 0 + _ ≤ _; exact Nat.le_of_eq rfl) (hb hby d3_14) (fun _ _ => ⟨rfl, e50, (by decide : 4 + 0 ≤ _), (by decide : 60 + 0 ≤ _)⟩)
  dsimp only [Pt.U, Pt.locs, Pt.cells, Pt.slots] at X65 l68 y69 z70 st71 hQ67
  subst l68 y69 z70
  obtain ⟨rfl, N72, e73⟩ := hQ67
  have N74 := Fr.app N44 N72
  refine own_bk (S' := (T61.setTop (mkF m 17 #[rv a, rv x0, rv x1, rv x2] [(.ref x2)]))) st71 ?_
  refine own_bk (S' := (T61.setTop (mkF m 18 #[rv a, rv x0, rv x1, rv x2] []))) (fun t_ kont => XS.pop X65.here hx rfl (hb hby d3_17) rfl rfl kont) ?_
  refine own_bk (S' := (T61.setTop (mkF m 19 #[rv a, rv x0, rv x1, rv x2] [(.ref a)]))) (fun t_ kont => XS.aloadN X65.here hx rfl (hb hby d3_18) rfl rfl kont) ?_
  refine own_bk (S' := (T61.setTop (mkF m 20 #[rv a, rv x0, rv x1, rv x2] [(.ref x0), (.ref a)]))) (fun t_ kont => XS.aloadN X65.here hx rfl (hb hby d3_19) rfl rfl kont) ?_
  obtain ⟨T75, h76, X77, e78, W79, st80⟩ := putF X65 hx hZ hown (host := "") (Or.inl (hw _ (List.mem_of_getElem? (i := 41) rfl))) Via.refl e73 F55 E54 (Or.inr ⟨(hw _ (List.mem_of_getElem? (i := 42) rfl)), rfl, hnm⟩) (hw _ (List.mem_of_getElem? (i := 15) rfl)) (ty := (.object "java/lang/String")) (by decide +kernel) rfl rfl (g := (mkF m 20 #[rv a, rv x0, rv x1, rv x2] [(.ref x0), (.ref a)])) rfl rfl (hb hby d3_20)
  have N81 := Fr.snoc X77 N74 ag
  have E82 := (E54.wr W79)
  have F83 := (F55.same W79)
  have F84 := (F56.other W79 (Or.inr (slot_ne (Or.inr (hw _ (List.mem_of_getElem? (i := 44) rfl))) (Or.inr (hw _ (List.mem_of_getElem? (i := 42) rfl))) (by decide) (show parseFieldDescriptor "Lcom/example/portcullis/portcullis/policy/WebDecision$Outcome;" = some (.object "com/example/portcullis/portcullis/policy/WebDecision$Outcome") from by decide +kernel) (show parseFieldDescriptor "Ljava/lang/String;" = some (.object "java/lang/String") from by decide +kernel))))
  have F85 := (F57.other W79 (Or.inr (slot_ne (Or.inr (hw _ (List.mem_of_getElem? (i := 46) rfl))) (Or.inr (hw _ (List.mem_of_getElem? (i := 42) rfl))) (by decide) (show parseFieldDescriptor "Lcom/example/portcullis/portcullis/policy/WebDecision$Reason;" = some (.object "com/example/portcullis/portcullis/policy/WebDecision$Reason") from by decide +kernel) (show parseFieldDescriptor "Ljava/lang/String;" = some (.object "java/lang/String") from by decide +kernel))))
  have Z86 := Nat.le_trans Z58 (Keep.of_wr W79).1
  have hk87 := Nat.le_trans hk53 (Keep.of_wr W79).1
  have O88 := O59.wr W79 ag
  have K89 := K60.wr W79 (Or.inl (List.mem_of_getElem? (i := 0) rfl))
  refine own_bk (S' := (T75.setTop (mkF m 23 #[rv a, rv x0, rv x1, rv x2] []))) st80 ?_
  refine own_bk (S' := (T75.setTop (mkF m 24 #[rv a, rv x0, rv x1, rv x2] [(.ref a)]))) (fun t_ kont => XS.aloadN X77.here hx rfl (hb hby d3_23) rfl rfl kont) ?_
  refine own_bk (S' := (T75.setTop (mkF m 25 #[rv a, rv x0, rv x1, rv x2] [(.ref x1), (.ref a)]))) (fun t_ kont => XS.aloadN X77.here hx rfl (hb hby d3_24) rfl rfl kont) ?_
  obtain ⟨T90, h91, X92, e93, W94, st95⟩ := putF X77 hx hZ hown (host := "") (Or.inl (hw _ (List.mem_of_getElem? (i := 43) rfl))) Via.refl e78 F84 E82 (Or.inr ⟨(hw _ (List.mem_of_getElem? (i := 44) rfl)), rfl, hnm⟩) (hw _ (List.mem_of_getElem? (i := 15) rfl)) (ty := (.object "com/example/portcullis/portcullis/policy/WebDecision$Outcome")) (by decide +kernel) rfl rfl (g := (mkF m 25 #[rv a, rv x0, rv x1, rv x2] [(.ref x1), (.ref a)])) rfl rfl (hb hby d3_25)
  have N96 := Fr.snoc X92 N81 ag
  have E97 := (E82.wr W94)
  have F98 := (F83.other W94 (Or.inr (slot_ne (Or.inr (hw _ (List.mem_of_getElem? (i := 42) rfl))) (Or.inr (hw _ (List.mem_of_getElem? (i := 44) rfl))) (by decide) (show parseFieldDescriptor "Ljava/lang/String;" = some (.object "java/lang/String") from by decide +kernel) (show parseFieldDescriptor "Lcom/example/portcullis/portcullis/policy/WebDecision$Outcome;" = some (.object "com/example/portcullis/portcullis/policy/WebDecision$Outcome") from by decide +kernel))))
  have F99 := (F84.same W94)
  have F100 := (F85.other W94 (Or.inr (slot_ne (Or.inr (hw _ (List.mem_of_getElem? (i := 46) rfl))) (Or.inr (hw _ (List.mem_of_getElem? (i := 44) rfl))) (by decide) (show parseFieldDescriptor "Lcom/example/portcullis/portcullis/policy/WebDecision$Reason;" = some (.object "com/example/portcullis/portcullis/policy/WebDecision$Reason") from by decide +kernel) (show parseFieldDescriptor "Lcom/example/portcullis/portcullis/policy/WebDecision$Outcome;" = some (.object "com/example/portcullis/portcullis/policy/WebDecision$Outcome") from by decide +kernel))))
  have Z101 := Nat.le_trans Z86 (Keep.of_wr W94).1
  have hk102 := Nat.le_trans hk87 (Keep.of_wr W94).1
  have O103 := O88.wr W94 ag
  have K104 := K89.wr W94 (Or.inl (List.mem_of_getElem? (i := 0) rfl))
  refine own_bk (S' := (T90.setTop (mkF m 28 #[rv a, rv x0, rv x1, rv x2] []))) st95 ?_
  refine own_bk (S' := (T90.setTop (mkF m 29 #[rv a, rv x0, rv x1, rv x2] [(.ref a)]))) (fun t_ kont => XS.aloadN X92.here hx rfl (hb hby d3_28) rfl rfl kont) ?_
  refine own_bk (S' := (T90.setTop (mkF m 30 #[rv a, rv x0, rv x1, rv x2] [(.ref x2), (.ref a)]))) (fun t_ kont => XS.aloadN X92.here hx rfl (hb hby d3_29) rfl rfl kont) ?_
  obtain ⟨T105, h106, X107, e108, W109, st110⟩ := putF X92 hx hZ hown (host := "") (Or.inl (hw _ (List.mem_of_getElem? (i := 45) rfl))) Via.refl e93 F100 E97 (Or.inr ⟨(hw _ (List.mem_of_getElem? (i := 46) rfl)), rfl, hnm⟩) (hw _ (List.mem_of_getElem? (i := 15) rfl)) (ty := (.object "com/example/portcullis/portcullis/policy/WebDecision$Reason")) (by decide +kernel) rfl rfl (g := (mkF m 30 #[rv a, rv x0, rv x1, rv x2] [(.ref x2), (.ref a)])) rfl rfl (hb hby d3_30)
  have N111 := Fr.snoc X107 N96 ag
  have E112 := (E97.wr W109)
  have F113 := (F98.other W109 (Or.inr (slot_ne (Or.inr (hw _ (List.mem_of_getElem? (i := 42) rfl))) (Or.inr (hw _ (List.mem_of_getElem? (i := 46) rfl))) (by decide) (show parseFieldDescriptor "Ljava/lang/String;" = some (.object "java/lang/String") from by decide +kernel) (show parseFieldDescriptor "Lcom/example/portcullis/portcullis/policy/WebDecision$Reason;" = some (.object "com/example/portcullis/portcullis/policy/WebDecision$Reason") from by decide +kernel))))
  have F114 := (F99.other W109 (Or.inr (slot_ne (Or.inr (hw _ (List.mem_of_getElem? (i := 44) rfl))) (Or.inr (hw _ (List.mem_of_getElem? (i := 46) rfl))) (by decide) (show parseFieldDescriptor "Lcom/example/portcullis/portcullis/policy/WebDecision$Outcome;" = some (.object "com/example/portcullis/portcullis/policy/WebDecision$Outcome") from by decide +kernel) (show parseFieldDescriptor "Lcom/example/portcullis/portcullis/policy/WebDecision$Reason;" = some (.object "com/example/portcullis/portcullis/policy/WebDecision$Reason") from by decide +kernel))))
  have F115 := (F100.same W109)
  have Z116 := Nat.le_trans Z101 (Keep.of_wr W109).1
  have hk117 := Nat.le_trans hk102 (Keep.of_wr W109).1
  have O118 := O103.wr W109 ag
  have K119 := K104.wr W109 (Or.inl (List.mem_of_getElem? (i := 0) rfl))
  refine own_bk (S' := (T105.setTop (mkF m 33 #[rv a, rv x0, rv x1, rv x2] []))) st110 ?_
  exact own_retVW hS X107 (by rw [show T105.heap = h106 from e108]; exact hk117) hx hlk Bd.returns (hb hby d3_33) (by rw [e108]; exact ⟨rfl, N111, O118, K119, F114⟩) (by decide) (by decide)
theorem d7_0 : decode prog_65_method_2_code 0 = .ok (.aload_n 0, 1) := by decide +kernel
theorem d7_1 : decode prog_65_method_2_code 1 = .ok (.getfield 23, 3) := by decide +kernel
theorem d7_4 : decode prog_65_method_2_code 4 = .ok (.getstatic 29, 3) := by decide +kernel
theorem d7_7 : decode prog_65_method_2_code 7 = .ok (.if_acmp .ne 7, 3) := by decide +kernel
theorem d7_10 : decode prog_65_method_2_code 10 = .ok (.iconst 1, 1) := by decide +kernel
theorem d7_11 : decode prog_65_method_2_code 11 = .ok (.goto 4, 3) := by decide +kernel
theorem d7_14 : decode prog_65_method_2_code 14 = .ok (.iconst 0, 1) := by decide +kernel
theorem d7_15 : decode prog_65_method_2_code 15 = .ok (.ireturn, 1) := by decide +kernel
theorem ef_rm7 (m : MethodId) (x0 : Addr) : entryFrame m #[(.ref x0)] 1 = mkF m 0 #[.val (.ref x0)] [] := by first | (simp [entryFrame, mkF, argsToLocals, Value.category, maxLocals]; done) | rfl
def Q_rm7 (Z : State) (a xo rA : Addr) (b : Int32) (h0 : Heap) (n0 : Nat) (v : Option Value) (h : Heap) (L : List Loc) : Prop := v = some (.int b) ∧ Fr n0 L ∧ h = h0
set_option maxRecDepth 65536 in
set_option maxHeartbeats 40000000 in
theorem rm7 (l : Launch) (Z : State) (a0 : Array Value) (hw : ∀ d ∈ tables_1, d.before a0 Z = true) (ws : List Jvm.Cond) (a xo rA : Addr) (b : Int32) (h0 : Heap) (n0 : Nat) (Z0 : n0 ≤ h0.size) (F : Fld Z h0 a "com/example/portcullis/portcullis/policy/WebDecision" "outcome" "Lcom/example/portcullis/portcullis/policy/WebDecision$Outcome;" (.ref xo)) (S : Sta Z h0 "com/example/portcullis/portcullis/policy/WebDecision$Outcome" "ALLOW" "Lcom/example/portcullis/portcullis/policy/WebDecision$Outcome;" (.ref rA)) (hv : (if xo = rA then 1 else 0 : Int32) = b) :
    MetFree l (⟨"com/example/portcullis/portcullis/policy/WebDecision", "allowed", "()Z"⟩ : MethodName) (head1 (Jvm.Cond.code (⟨"com/example/portcullis/portcullis/policy/WebDecision", "allowed", "()Z"⟩ : MethodName) prog_65_method_2_code 1 (some .boolean) :: ws) ({ frames := 0, cells := 0, slots := 0, locals := 0 } : Room)) (fun as_ U_ => as_ = #[(.ref a)] ∧ Z.Warmed39 U_.vm ∧ U_.heap = h0) (fun _ _ _ _ _ => True) (fun _ U_ o_ U2_ => ∃ v_ L_, o_ = .returned v_ ∧ (Q_rm7 Z a xo rA b h0 n0) v_ U2_.heap L_ ∧ FrameEnd U_ o_ U2_ L_ ({ frames := 0, cells := 0, slots := 0, locals := 0 } : Room).cells ({ frames := 0, cells := 0, slots := 0, locals := 0 } : Room).slots) := by
  refine MetFree.of_bodySF (plainFor_of_name (by first | (simp [plainName, overriddenIn]; done) | decide +kernel : plainName "com/example/portcullis/portcullis/policy/WebDecision" = true)) hisR ?_
  intro p e s m args below meth c s₁ Bd hml0 hP hK
  obtain ⟨rfl, hZ, hh⟩ := hP
  have hx := Bd.exec
  have hby := Bd.bytes
  have hlk := Bd.notSynchronized
  have hml : c.maxLocals = 1 := hml0
  have hown : s.vm.findClass "com/example/portcullis/portcullis/policy/WebDecision" = some m.cls := findClass_of_methodNamed Bd.named
  have hnm := (name_of_methodNamed Bd.named Bd.method).1
  have X0 : Stand p l e ({ frames := 0, cells := 0, slots := 0, locals := 0 } : Room) s m #[(.ref a)] below meth c s₁ [] 0 0 := Stand.of_body Bd
  have e0 : s₁.heap = h0 := by rw [← hh, Bd.state]; rfl
  have N0 := Fr.nil n0
  show own_Go p e below (own_R s below (Q_rm7 Z a xo rA b h0 n0) ({ frames := 0, cells := 0, slots := 0, locals := 0 } : Room).cells ({ frames := 0, cells := 0, slots := 0, locals := 0 } : Room).slots) (s₁.setTop (entryFrame m #[(.ref a)] 1))
  refine own_bk (S' := (s₁.setTop (mkF m 0 #[rv a] []))) (fun t_ kont => castTop (ef_rm7 m (a)) kont) ?_
  refine own_bk (S' := (s₁.setTop (mkF m 1 #[rv a] [(.ref a)]))) (fun t_ kont => XS.aloadN X0.here hx rfl (hb hby d7_0) rfl rfl kont) ?_
  obtain ⟨T1, X2, e3, st4⟩ := getF X0 hx hZ hown (host := "") (Or.inl (hw _ (List.mem_of_getElem? (i := 43) rfl))) Via.refl e0 F (g := (mkF m 1 #[rv a] [(.ref a)])) rfl rfl (hb hby d7_1)
  refine own_bk (S' := (T1.setTop (mkF m 4 #[rv a] [(.ref xo)]))) st4 ?_
  obtain ⟨T5, X6, e7, st8⟩ := getS2 X2 hx hZ hown (host := "") (Or.inl (hw _ (List.mem_of_getElem? (i := 52) rfl))) Via.refl e3 S (g := (mkF m 4 #[rv a] [(.ref xo)])) rfl (hb hby d7_4)
  refine own_bk (S' := (T5.setTop (mkF m 7 #[rv a] [(.ref rA), (.ref xo)]))) st8 ?_
  by_cases hc9 : xo = rA
  · refine own_bk (S' := (T5.setTop (mkF m 10 #[rv a] []))) (fun t_ kont => Jvm.RoadKit.acmp (g := (mkF m 7 #[rv a] [(.ref rA), (.ref xo)])) X6 hx rfl rfl rfl (pc0 := 7) (pc' := 10) (same := true) rfl (hb hby d7_7) rfl (decide_eq_true (congrArg _ hc9)) (by decide) (by decide) kont) ?_
    refine own_bk (S' := (T5.setTop (mkF m 11 #[rv a] [(.int (1 : Int32))]))) (fun t_ kont => XS.iconst X6.here hx rfl (hb hby d7_10) kont) ?_
    refine own_bk (S' := (T5.setTop (mkF m 15 #[rv a] [(.int (1 : Int32))]))) (fun t_ kont => XS.goto X6.here hx rfl (pc0 := 11) (pc' := 15) rfl (hb hby d7_11) (by decide) (by decide) kont) ?_
    exact own_retN X6 hx hlk (t := .boolean) (w := (1 : Int32)) Bd.returns (by simp) (hb hby d7_15) rfl ⟨by rw [← hv]; simp [hc9], N0, e7⟩ (by decide) (by decide)
  · refine own_bk (S' := (T5.setTop (mkF m 14 #[rv a] []))) (fun t_ kont => Jvm.RoadKit.acmp (g := (mkF m 7 #[rv a] [(.ref rA), (.ref xo)])) X6 hx rfl rfl rfl (pc0 := 7) (pc' := 14) (same := false) rfl (hb hby d7_7) rfl (decide_eq_false (fun q => hc9 (Value.ref.inj q))) (by decide) (by decide) kont) ?_
    refine own_bk (S' := (T5.setTop (mkF m 15 #[rv a] [(.int (0 : Int32))]))) (fun t_ kont => XS.iconst X6.here hx rfl (hb hby d7_14) kont) ?_
    exact own_retN X6 hx hlk (t := .boolean) (w := (0 : Int32)) Bd.returns (by simp) (hb hby d7_15) rfl ⟨by rw [← hv]; simp [hc9], N0, e7⟩ (by decide) (by decide)
theorem ef_rm0 (m : MethodId) (x0 : Int32) (x1 : Int32) (x2 : Int32) (x3 : Int32) (x4 : Int32) : entryFrame m #[(.int x0), (.int x1), (.int x2), (.int x3), (.int x4)] maxLocals = mkF m 0 #[.val (.int x0), .val (.int x1), .val (.int x2), .val (.int x3), .val (.int x4), .unset, .unset, .unset, .unset, .unset, .unset, .unset, .unset, .unset] [] := by first | (simp [entryFrame, mkF, argsToLocals, Value.category, maxLocals]; done) | rfl
def Q_rm0 (Z : State) (v0 v1 v2 v3 v4 cz : Int32) (r_ALLOW r_DENY r_AUTHENTICATE r_REDIRECT r_UNCONSTRAINED r_UNCOVERED r_ROLE r_NO_ROLE r_EXCLUDED r_LOGIN_REQUIRED r_CONFIDENTIAL_REQUIRED : Addr) (h0 : Heap) (n0 : Nat) (v : Option Value) (h : Heap) (L : List Loc) : Prop := v = some (.int 1) ∧ Fr n0 L
set_option maxRecDepth 65536 in
set_option maxHeartbeats 40000000 in
theorem rm0 (l : Launch) (Z : State) (a0 : Array Value) (hw : ∀ d ∈ tables_1, d.before a0 Z = true) (ws : List Jvm.Cond) (v0 v1 v2 v3 v4 cz : Int32) (r_ALLOW r_DENY r_AUTHENTICATE r_REDIRECT r_UNCONSTRAINED r_UNCOVERED r_ROLE r_NO_ROLE r_EXCLUDED r_LOGIN_REQUIRED r_CONFIDENTIAL_REQUIRED : Addr) (h0 : Heap) (n0 : Nat) (Z0 : n0 ≤ h0.size) (O : Old Z n0 h0) (SC : Sta Z Z.heap "java/lang/String" "COMPACT_STRINGS" "Z" (.int cz)) (hcz : ¬ cz = (0 : Int32)) (G_ALLOW : own_E Z Z.heap r_ALLOW "com/example/portcullis/portcullis/policy/WebDecision$Outcome" "ALLOW" "Lcom/example/portcullis/portcullis/policy/WebDecision$Outcome;" 0) (G_DENY : own_E Z Z.heap r_DENY "com/example/portcullis/portcullis/policy/WebDecision$Outcome" "DENY" "Lcom/example/portcullis/portcullis/policy/WebDecision$Outcome;" 1) (G_AUTHENTICATE : own_E Z Z.heap r_AUTHENTICATE "com/example/portcullis/portcullis/policy/WebDecision$Outcome" "AUTHENTICATE" "Lcom/example/portcullis/portcullis/policy/WebDecision$Outcome;" 2) (G_REDIRECT : own_E Z Z.heap r_REDIRECT "com/example/portcullis/portcullis/policy/WebDecision$Outcome" "REDIRECT" "Lcom/example/portcullis/portcullis/policy/WebDecision$Outcome;" 3) (G_UNCONSTRAINED : Sta Z Z.heap "com/example/portcullis/portcullis/policy/WebDecision$Reason" "UNCONSTRAINED" "Lcom/example/portcullis/portcullis/policy/WebDecision$Reason;" (.ref r_UNCONSTRAINED)) (G_UNCOVERED : Sta Z Z.heap "com/example/portcullis/portcullis/policy/WebDecision$Reason" "UNCOVERED" "Lcom/example/portcullis/portcullis/policy/WebDecision$Reason;" (.ref r_UNCOVERED)) (G_ROLE : Sta Z Z.heap "com/example/portcullis/portcullis/policy/WebDecision$Reason" "ROLE" "Lcom/example/portcullis/portcullis/policy/WebDecision$Reason;" (.ref r_ROLE)) (G_NO_ROLE : Sta Z Z.heap "com/example/portcullis/portcullis/policy/WebDecision$Reason" "NO_ROLE" "Lcom/example/portcullis/portcullis/policy/WebDecision$Reason;" (.ref r_NO_ROLE)) (G_EXCLUDED : Sta Z Z.heap "com/example/portcullis/portcullis/policy/WebDecision$Reason" "EXCLUDED" "Lcom/example/portcullis/portcullis/policy/WebDecision$Reason;" (.ref r_EXCLUDED)) (G_LOGIN_REQUIRED : Sta Z Z.heap "com/example/portcullis/portcullis/policy/WebDecision$Reason" "LOGIN_REQUIRED" "Lcom/example/portcullis/portcullis/policy/WebDecision$Reason;" (.ref r_LOGIN_REQUIRED)) (G_CONFIDENTIAL_REQUIRED : Sta Z Z.heap "com/example/portcullis/portcullis/policy/WebDecision$Reason" "CONFIDENTIAL_REQUIRED" "Lcom/example/portcullis/portcullis/policy/WebDecision$Reason;" (.ref r_CONFIDENTIAL_REQUIRED)) :
    MetFree l x (head1 (Jvm.Cond.code x code maxLocals ret :: ws) room_1) (fun as_ U_ => as_ = #[(.int v0), (.int v1), (.int v2), (.int v3), (.int v4)] ∧ Z.Warmed39 U_.vm ∧ U_.heap = h0) (fun _ _ _ _ _ => True) (fun _ U_ o_ U2_ => ∃ v_ L_, o_ = .returned v_ ∧ (Q_rm0 Z v0 v1 v2 v3 v4 cz r_ALLOW r_DENY r_AUTHENTICATE r_REDIRECT r_UNCONSTRAINED r_UNCOVERED r_ROLE r_NO_ROLE r_EXCLUDED r_LOGIN_REQUIRED r_CONFIDENTIAL_REQUIRED h0 n0) v_ U2_.heap L_ ∧ ReturnedEndW U_ o_ U2_ L_ room_1.cells room_1.slots) := by
  refine MetFree.of_bodySF (plainFor_of_name (by first | (simp [plainName, overriddenIn]; done) | decide +kernel : plainName "com/example/portcullis/portcullis/policy/WebDecisionAllowedPinLaw" = true)) hisR ?_
  intro p e s m args below meth c s₁ Bd hml0 hP hK
  obtain ⟨rfl, hZ, hh⟩ := hP
  have hx := Bd.exec
  have hby := Bd.bytes
  have hlk := Bd.notSynchronized
  have hml : c.maxLocals = 14 := hml0
  have hown : s.vm.findClass "com/example/portcullis/portcullis/policy/WebDecisionAllowedPinLaw" = some m.cls := findClass_of_methodNamed Bd.named
  have hnm := (name_of_methodNamed Bd.named Bd.method).1
  have X0 : Stand p l e room_1 (s.setVm s.vm) m #[(.int v0), (.int v1), (.int v2), (.int v3), (.int v4)] below meth c s₁ [] 0 0 := Stand.of_body Bd
  have hS : s.Since s.vm 0 := (State.WarmedH.refl s).since 0
  have hk0 : 0 ≤ h0.size := Nat.zero_le _
  have hwS : ∀ d ∈ Bundle.stringAtoms, d.before a0 Z = true := fun d hd => hw d ((by decide +kernel : ∀ d ∈ Bundle.stringAtoms, d ∈ tables_1) d hd)
  have e0 : s₁.heap = h0 := by rw [← hh, Bd.state]; rfl
  have N0 := Fr.nil n0
  show own_Go p e below (own_RW s below (Q_rm0 Z v0 v1 v2 v3 v4 cz r_ALLOW r_DENY r_AUTHENTICATE r_REDIRECT r_UNCONSTRAINED r_UNCOVERED r_ROLE r_NO_ROLE r_EXCLUDED r_LOGIN_REQUIRED r_CONFIDENTIAL_REQUIRED h0 n0) room_1.cells room_1.slots) (s₁.setTop (entryFrame m #[(.int v0), (.int v1), (.int v2), (.int v3), (.int v4)] maxLocals))
  refine own_bk (S' := (s₁.setTop (mkF m 0 #[iv v0, iv v1, iv v2, iv v3, iv v4, .unset, .unset, .unset, .unset, .unset, .unset, .unset, .unset, .unset] []))) (fun t_ kont => castTop (ef_rm0 m (v0) (v1) (v2) (v3) (v4)) kont) ?_
  refine own_bk (S' := (s₁.setTop (mkF m 1 #[iv v0, iv v1, iv v2, iv v3, iv v4, .unset, .unset, .unset, .unset, .unset, .unset, .unset, .unset, .unset] [(.int v0)]))) (fun t_ kont => XS.iloadN X0.here hx rfl (hb hby at_0) rfl kont) ?_
  refine own_bk (S' := (s₁.setTop (mkF m 2 #[iv v0, iv v1, iv v2, iv v3, iv v4, .unset, .unset, .unset, .unset, .unset, .unset, .unset, .unset, .unset] [(.int (3 : Int32)), (.int v0)]))) (fun t_ kont => XS.iconst X0.here hx rfl (hb hby at_1) kont) ?_
  refine own_bk (S' := (s₁.setTop (mkF m 3 #[iv v0, iv v1, iv v2, iv v3, iv v4, .unset, .unset, .unset, .unset, .unset, .unset, .unset, .unset, .unset] [(.int (v0 &&& (3 : Int32)))]))) (fun t_ kont => XS.iand X0.here hx rfl (hb hby at_2) rfl kont) ?_
  refine own_bk (S' := (s₁.setTop (mkF m 5 #[iv v0, iv v1, iv v2, iv v3, iv v4, iv (v0 &&& (3 : Int32)), .unset, .unset, .unset, .unset, .unset, .unset, .unset, .unset] []))) (fun t_ kont => XS.istore X0.here hx rfl (hb hby at_3) rfl (l' := #[iv v0, iv v1, iv v2, iv v3, iv v4, iv (v0 &&& (3 : Int32)), .unset, .unset, .unset, .unset, .unset, .unset, .unset, .unset]) rfl kont) ?_
  refine own_bk (S' := (s₁.setTop (mkF m 6 #[iv v0, iv v1, iv v2, iv v3, iv v4, iv (v0 &&& (3 : Int32)), .unset, .unset, .unset, .unset, .unset, .unset, .unset, .unset] [(.int v1)]))) (fun t_ kont => XS.iloadN X0.here hx rfl (hb hby at_5) rfl kont) ?_
  refine own_bk (S' := (s₁.setTop (mkF m 8 #[iv v0, iv v1, iv v2, iv v3, iv v4, iv (v0 &&& (3 : Int32)), .unset, .unset, .unset, .unset, .unset, .unset, .unset, .unset] [(.int (2147483647 : Int32)), (.int v1)]))) (fun t_ kont => X0.ldcI hx hown (mvT hZ (hw _ (List.mem_of_getElem? (i := 0) rfl))) rfl (hb hby at_6) kont) ?_
  refine own_bk (S' := (s₁.setTop (mkF m 9 #[iv v0, iv v1, iv v2, iv v3, iv v4, iv (v0 &&& (3 : Int32)), .unset, .unset, .unset, .unset, .unset, .unset, .unset, .unset] [(.int (v1 &&& (2147483647 : Int32)))]))) (fun t_ kont => XS.iand X0.here hx rfl (hb hby at_8) rfl kont) ?_
  refine own_bk (S' := (s₁.setTop (mkF m 11 #[iv v0, iv v1, iv v2, iv v3, iv v4, iv (v0 &&& (3 : Int32)), .unset, .unset, .unset, .unset, .unset, .unset, .unset, .unset] [(.int (7 : Int32)), (.int (v1 &&& (2147483647 : Int32)))]))) (fun t_ kont => XS.bipush X0.here hx rfl (hb hby at_9) kont) ?_
  refine own_bk (S' := (s₁.setTop (mkF m 12 #[iv v0, iv v1, iv v2, iv v3, iv v4, iv (v0 &&& (3 : Int32)), .unset, .unset, .unset, .unset, .unset, .unset, .unset, .unset] [(.int ((v1 &&& (2147483647 : Int32)) % (7 : Int32)))]))) (fun t_ kont => iremM X0 hx rfl (hb hby at_11) rfl (by decide) kont) ?_
  refine own_bk (S' := (s₁.setTop (mkF m 14 #[iv v0, iv v1, iv v2, iv v3, iv v4, iv (v0 &&& (3 : Int32)), iv ((v1 &&& (2147483647 : Int32)) % (7 : Int32)), .unset, .unset, .unset, .unset, .unset, .unset, .unset] []))) (fun t_ kont => XS.istore X0.here hx rfl (hb hby at_12) rfl (l' := #[iv v0, iv v1, iv v2, iv v3, iv v4, iv (v0 &&& (3 : Int32)), iv ((v1 &&& (2147483647 : Int32)) % (7 : Int32)), .unset, .unset, .unset, .unset, .unset, .unset, .unset]) rfl kont) ?_
  generalize (v0 &&& (3 : Int32)) = oi
  generalize ((v1 &&& (2147483647 : Int32)) % (7 : Int32)) = ri
  by_cases hc1 : oi = 0
  · subst hc1
    refine own_bk (S' := (s₁.setTop (mkF m 16 #[iv v0, iv v1, iv v2, iv v3, iv v4, iv (0 : Int32), iv ri, .unset, .unset, .unset, .unset, .unset, .unset, .unset] [(.int (0 : Int32))]))) (fun t_ kont => XS.iload X0.here hx rfl (hb hby at_14) rfl kont) ?_
    obtain ⟨_, _, ⟨T2, L3, k4, n5⟩, -, X6, ⟨Lc7, hQ8, l9, y10, z11⟩, st12⟩ := Jvm.LawKit.callS X0 hx (y := (⟨"com/example/portcullis/portcullis/policy/WebDecisionAllowedPinLaw", "outcomeOf", "(I)Lcom/example/portcullis/portcullis/policy/WebDecision$Outcome;"⟩ : MethodName)) hown (mvT hZ (hw _ (List.mem_of_getElem? (i := 1) rfl))) (mvT hZ (hw _ (List.mem_of_getElem? (i := 2) rfl))) (mvT hZ (hw _ (List.mem_of_getElem? (i := 3) rfl))) (mvT hZ (hw _ (List.mem_of_getElem? (i := 4) rfl))) (by decide) (backOf (W := 0) (rm1 l Z a0 hw [] (0 : Int32) r_ALLOW r_DENY r_AUTHENTICATE r_REDIRECT r_ALLOW h0 n0 Z0 (G_ALLOW.1.ext O.2) (G_DENY.1.ext O.2) (G_AUTHENTICATE.1.ext O.2) (G_REDIRECT.1.ext O.2) rfl) hZ (hw _ (List.mem_of_getElem? (i := 4) rfl)) (hw _ (List.mem_of_getElem? (i := 3) rfl)) (by decide) (by decide)) (g := (mkF m 16 #[iv v0, iv v1, iv v2, iv v3, iv v4, iv (0 : Int32), iv ri, .unset, .unset, .unset, .unset, .unset, .unset, .unset] [(.int (0 : Int32))])) rfl (by rw [hml]; rfl) (argsL := [(.int (0 : Int32))]) (rest := []) (lenOf (by decide +kernel : parseMethodDescriptor "(I)Lcom/example/portcullis/portcullis/policy/WebDecision$Outcome;" = some ⟨[.int], some (.object "com/example/portcullis/portcullis/policy/WebDecision$Outcome")⟩) rfl) rfl (by show 2 * 0 + _ ≤ _; exact Nat.le_of_eq rfl) (hb hby at_16) (fun _ _ => ⟨rfl, e0, (by decide : 0 + 0 ≤ _), (by decide : 0 + 0 ≤ _)⟩)
    dsimp only [Pt.U, Pt.locs, Pt.cells, Pt.slots] at X6 l9 y10 z11 st12 hQ8
    subst l9 y10 z11
    obtain ⟨rfl, N13, e14⟩ := hQ8
    have N15 := Fr.app N0 N13
    refine own_bk (S' := (T2.setTop (mkF m 19 #[iv v0, iv v1, iv v2, iv v3, iv v4, iv (0 : Int32), iv ri, .unset, .unset, .unset, .unset, .unset, .unset, .unset] [(.ref r_ALLOW)]))) st12 ?_
    refine own_bk (S' := (T2.setTop (mkF m 21 #[iv v0, iv v1, iv v2, iv v3, iv v4, iv (0 : Int32), iv ri, rv r_ALLOW, .unset, .unset, .unset, .unset, .unset, .unset] []))) (fun t_ kont => XS.astore X6.here hx rfl (hb hby at_19) rfl rfl (l' := #[iv v0, iv v1, iv v2, iv v3, iv v4, iv (0 : Int32), iv ri, rv r_ALLOW, .unset, .unset, .unset, .unset, .unset, .unset]) rfl kont) ?_
    refine own_bk (S' := (T2.setTop (mkF m 23 #[iv v0, iv v1, iv v2, iv v3, iv v4, iv (0 : Int32), iv ri, rv r_ALLOW, .unset, .unset, .unset, .unset, .unset, .unset] [(.int ri)]))) (fun t_ kont => XS.iload X6.here hx rfl (hb hby at_21) rfl kont) ?_
    obtain ⟨xr, hxr⟩ : ∃ x, (if ri = 0 then r_UNCONSTRAINED else if ri = 1 then r_UNCOVERED else if ri = 2 then r_ROLE else if ri = 3 then r_NO_ROLE else if ri = 4 then r_EXCLUDED else if ri = 5 then r_LOGIN_REQUIRED else r_CONFIDENTIAL_REQUIRED) = x := ⟨_, rfl⟩
    obtain ⟨_, _, ⟨T16, L17, k18, n19⟩, -, X20, ⟨Lc21, hQ22, l23, y24, z25⟩, st26⟩ := Jvm.LawKit.callS X6 hx (y := (⟨"com/example/portcullis/portcullis/policy/WebDecisionAllowedPinLaw", "reasonOf", "(I)Lcom/example/portcullis/portcullis/policy/WebDecision$Reason;"⟩ : MethodName)) hown (mvT hZ (hw _ (List.mem_of_getElem? (i := 8) rfl))) (mvT hZ (hw _ (List.mem_of_getElem? (i := 9) rfl))) (mvT hZ (hw _ (List.mem_of_getElem? (i := 3) rfl))) (mvT hZ (hw _ (List.mem_of_getElem? (i := 10) rfl))) (by decide) (backOf (W := 0) (rm2 l Z a0 hw [] ri r_UNCONSTRAINED r_UNCOVERED r_ROLE r_NO_ROLE r_EXCLUDED r_LOGIN_REQUIRED r_CONFIDENTIAL_REQUIRED xr h0 n0 Z0 (G_UNCONSTRAINED.ext O.2) (G_UNCOVERED.ext O.2) (G_ROLE.ext O.2) (G_NO_ROLE.ext O.2) (G_EXCLUDED.ext O.2) (G_LOGIN_REQUIRED.ext O.2) (G_CONFIDENTIAL_REQUIRED.ext O.2) hxr) hZ (hw _ (List.mem_of_getElem? (i := 10) rfl)) (hw _ (List.mem_of_getElem? (i := 3) rfl)) (by decide) (by decide)) (g := (mkF m 23 #[iv v0, iv v1, iv v2, iv v3, iv v4, iv (0 : Int32), iv ri, rv r_ALLOW, .unset, .unset, .unset, .unset, .unset, .unset] [(.int ri)])) rfl (by rw [hml]; rfl) (argsL := [(.int ri)]) (rest := []) (lenOf (by decide +kernel : parseMethodDescriptor "(I)Lcom/example/portcullis/portcullis/policy/WebDecision$Reason;" = some ⟨[.int], some (.object "com/example/portcullis/portcullis/policy/WebDecision$Reason")⟩) rfl) rfl (by show 2 * 0 + _ ≤ _; exact Nat.le_of_eq rfl) (hb hby at_23) (fun _ _ => ⟨rfl, e14, (by decide : 0 + 0 ≤ _), (by decide : 0 + 0 ≤ _)⟩)
    dsimp only [Pt.U, Pt.locs, Pt.cells, Pt.slots] at X20 l23 y24 z25 st26 hQ22
    subst l23 y24 z25
    obtain ⟨rfl, N27, e28⟩ := hQ22
    have N29 := Fr.app N15 N27
    refine own_bk (S' := (T16.setTop (mkF m 26 #[iv v0, iv v1, iv v2, iv v3, iv v4, iv (0 : Int32), iv ri, rv r_ALLOW, .unset, .unset, .unset, .unset, .unset, .unset] [(.ref xr)]))) st26 ?_
    refine own_bk (S' := (T16.setTop (mkF m 28 #[iv v0, iv v1, iv v2, iv v3, iv v4, iv (0 : Int32), iv ri, rv r_ALLOW, rv xr, .unset, .unset, .unset, .unset, .unset] []))) (fun t_ kont => XS.astore X20.here hx rfl (hb hby at_26) rfl rfl (l' := #[iv v0, iv v1, iv v2, iv v3, iv v4, iv (0 : Int32), iv ri, rv r_ALLOW, rv xr, .unset, .unset, .unset, .unset, .unset]) rfl kont) ?_
    refine own_bk (S' := (T16.setTop (mkF m 29 #[iv v0, iv v1, iv v2, iv v3, iv v4, iv (0 : Int32), iv ri, rv r_ALLOW, rv xr, .unset, .unset, .unset, .unset, .unset] [.null]))) (fun t_ kont => XS.aconstNull X20.here hx rfl (hb hby at_28) kont) ?_
    refine own_bk (S' := (T16.setTop (mkF m 31 #[iv v0, iv v1, iv v2, iv v3, iv v4, iv (0 : Int32), iv ri, rv r_ALLOW, rv xr, .val .null, .unset, .unset, .unset, .unset] []))) (fun t_ kont => XS.astore X20.here hx rfl (hb hby at_29) rfl rfl (l' := #[iv v0, iv v1, iv v2, iv v3, iv v4, iv (0 : Int32), iv ri, rv r_ALLOW, rv xr, .val .null, .unset, .unset, .unset, .unset]) rfl kont) ?_
    refine own_bk (S' := (T16.setTop (mkF m 32 #[iv v0, iv v1, iv v2, iv v3, iv v4, iv (0 : Int32), iv ri, rv r_ALLOW, rv xr, .val .null, .unset, .unset, .unset, .unset] [(.int v2)]))) (fun t_ kont => XS.iloadN X20.here hx rfl (hb hby at_31) rfl kont) ?_
    refine own_bk (S' := (T16.setTop (mkF m 33 #[iv v0, iv v1, iv v2, iv v3, iv v4, iv (0 : Int32), iv ri, rv r_ALLOW, rv xr, .val .null, .unset, .unset, .unset, .unset] [(.int (1 : Int32)), (.int v2)]))) (fun t_ kont => XS.iconst X20.here hx rfl (hb hby at_32) kont) ?_
    refine own_bk (S' := (T16.setTop (mkF m 34 #[iv v0, iv v1, iv v2, iv v3, iv v4, iv (0 : Int32), iv ri, rv r_ALLOW, rv xr, .val .null, .unset, .unset, .unset, .unset] [(.int (v2 &&& (1 : Int32)))]))) (fun t_ kont => XS.iand X20.here hx rfl (hb hby at_33) rfl kont) ?_
    by_cases hc30 : ((v2 &&& (1 : Int32))) = ((0 : Int32))
    · refine own_bk (S' := (T16.setTop (mkF m 109 #[iv v0, iv v1, iv v2, iv v3, iv v4, iv (0 : Int32), iv ri, rv r_ALLOW, rv xr, .val .null, .unset, .unset, .unset, .unset] []))) (fun t_ kont => XS.ifYes X20.here hx rfl (pc0 := 34) (pc' := 109) rfl (hb hby at_34) rfl ((if0 _ _).trans (teq (hc30)).1) (by decide) (by decide) kont) ?_
      obtain ⟨T31, h32, X33, e34, E35, A36, D37, -, st38⟩ := newO X20 hx hZ hown (hw _ (List.mem_of_getElem? (i := 14) rfl)) (hw _ (List.mem_of_getElem? (i := 15) rfl)) (hw _ (List.mem_of_getElem? (i := 16) rfl)) e28 (g := (mkF m 109 #[iv v0, iv v1, iv v2, iv v3, iv v4, iv (0 : Int32), iv ri, rv r_ALLOW, rv xr, .val .null, .unset, .unset, .unset, .unset] [])) rfl (hb hby at_109) (by decide) (by decide)
      obtain ⟨a39, g40⟩ : ∃ z, z = h0.size := ⟨_, rfl⟩
      rw [← g40] at A36 D37 st38
      have ag41 : n0 ≤ a39 := Nat.le_trans Z0 (Nat.le_of_eq g40.symm)
      have Z42 := Nat.le_trans Z0 E35.1
      have hk43 := Nat.le_trans hk0 E35.1
      have O44 := O.ext E35
      have F45 : Fld Z h32 a39 "com/example/portcullis/portcullis/policy/WebDecision" "pattern" "Ljava/lang/String;" .null := (D37 (Or.inr (hw _ (List.mem_of_getElem? (i := 42) rfl))) (ty := (.object "java/lang/String")) (by decide +kernel))
      have F46 : Fld Z h32 a39 "com/example/portcullis/portcullis/policy/WebDecision" "outcome" "Lcom/example/portcullis/portcullis/policy/WebDecision$Outcome;" .null := (D37 (Or.inr (hw _ (List.mem_of_getElem? (i := 44) rfl))) (ty := (.object "com/example/portcullis/portcullis/policy/WebDecision$Outcome")) (by decide +kernel))
      have F47 : Fld Z h32 a39 "com/example/portcullis/portcullis/policy/WebDecision" "reason" "Lcom/example/portcullis/portcullis/policy/WebDecision$Reason;" .null := (D37 (Or.inr (hw _ (List.mem_of_getElem? (i := 46) rfl))) (ty := (.object "com/example/portcullis/portcullis/policy/WebDecision$Reason")) (by decide +kernel))
      refine own_bk (S' := (T31.setTop (mkF m 112 #[iv v0, iv v1, iv v2, iv v3, iv v4, iv (0 : Int32), iv ri, rv r_ALLOW, rv xr, .val .null, .unset, .unset, .unset, .unset] [(.ref a39)]))) st38 ?_
      refine own_bk (S' := (T31.setTop (mkF m 113 #[iv v0, iv v1, iv v2, iv v3, iv v4, iv (0 : Int32), iv ri, rv r_ALLOW, rv xr, .val .null, .unset, .unset, .unset, .unset] [(.ref a39), (.ref a39)]))) (fun t_ kont => XS.dup X33.here hx rfl (hb hby at_112) rfl rfl kont) ?_
      refine own_bk (S' := (T31.setTop (mkF m 115 #[iv v0, iv v1, iv v2, iv v3, iv v4, iv (0 : Int32), iv ri, rv r_ALLOW, rv xr, .val .null, .unset, .unset, .unset, .unset] [.null, (.ref a39), (.ref a39)]))) (fun t_ kont => XS.aload X33.here hx rfl (hb hby at_113) rfl rfl kont) ?_
      refine own_bk (S' := (T31.setTop (mkF m 117 #[iv v0, iv v1, iv v2, iv v3, iv v4, iv (0 : Int32), iv ri, rv r_ALLOW, rv xr, .val .null, .unset, .unset, .unset, .unset] [(.ref r_ALLOW), .null, (.ref a39), (.ref a39)]))) (fun t_ kont => XS.aload X33.here hx rfl (hb hby at_115) rfl rfl kont) ?_
      refine own_bk (S' := (T31.setTop (mkF m 119 #[iv v0, iv v1, iv v2, iv v3, iv v4, iv (0 : Int32), iv ri, rv r_ALLOW, rv xr, .val .null, .unset, .unset, .unset, .unset] [(.ref xr), (.ref r_ALLOW), .null, (.ref a39), (.ref a39)]))) (fun t_ kont => XS.aload X33.here hx rfl (hb hby at_117) rfl rfl kont) ?_
      obtain ⟨_, _, ⟨T51, L52, k53, n54⟩, -, X55, hS2_, hgr_, ⟨Lc56, hQ57, l58, y59, z60⟩, st61⟩ := X33.specialBackS hx (y := (⟨"com/example/portcullis/portcullis/policy/WebDecision", "<init>", "(Ljava/lang/String;Lcom/example/portcullis/portcullis/policy/WebDecision$Outcome;Lcom/example/portcullis/portcullis/policy/WebDecision$Reason;)V"⟩ : MethodName)) rfl hown (mvT hZ (hw _ (List.mem_of_getElem? (i := 17) rfl))) (mvT hZ (hw _ (List.mem_of_getElem? (i := 18) rfl))) (mvT hZ (hw _ (List.mem_of_getElem? (i := 19) rfl))) (by decide) (backOfS (W := 1) (rm3N l Z a0 hw [] a39 r_ALLOW xr h32 n0 Z42 O44 A36 ag41 F45 F46 F47) hZ (hw _ (List.mem_of_getElem? (i := 19) rfl)) (hw _ (List.mem_of_getElem? (i := 16) rfl)) (by decide) (by decide)) (g := (mkF m 119 #[iv v0, iv v1, iv v2, iv v3, iv v4, iv (0 : Int32), iv ri, rv r_ALLOW, rv xr, .val .null, .unset, .unset, .unset, .unset] [(.ref xr), (.ref r_ALLOW), .null, (.ref a39), (.ref a39)])) rfl (by rw [hml]; rfl) (Steps.refl _) (a := a39) (argsL := [.null, (.ref r_ALLOW), (.ref xr)]) (rest := [(.ref a39)]) (lenOf (by decide +kernel : parseMethodDescriptor "(Ljava/lang/String;Lcom/example/portcullis/portcullis/policy/WebDecision$Outcome;Lcom/example/portcullis/portcullis/policy/WebDecision$Reason;)V" = some ⟨[(.object "java/lang/String"), (.object "com/example/portcullis/portcullis/policy/WebDecision$Outcome"), (.object "com/example/portcullis/portcullis/policy/WebDecision$Reason")], none⟩) rfl) rfl (by show 2 * 0 + _ ≤ _; exact Nat.le_of_eq rfl) (hb hby at_119) (fun _ _ => ⟨rfl, e34, (by decide : 1 + 4 ≤ _), (by decide : 3 + 60 ≤ _)⟩)
      dsimp only [Pt.U, Pt.locs, Pt.cells, Pt.slots] at X55 l58 y59 z60 st61 hQ57 hS2_ hgr_
      subst l58 y59 z60
      obtain ⟨X62, hS, hZ, hown⟩ := rebS hS (by rw [show T31.heap = h32 from e34]; exact hk43) X55 hS2_ hgr_ hZ hown
      obtain ⟨rfl, N63, O50, K48, g49⟩ := hQ57
      have N65 := Fr.app N29 N63
      have E66 := (A36.keep K48)
      have Z67 := Nat.le_trans Z42 K48.1
      have O68 := O44.keep K48 (allS ag41 all0)
      refine own_tr (S' := (T51.setTop (mkF m 122 #[iv v0, iv v1, iv v2, iv v3, iv v4, iv (0 : Int32), iv ri, rv r_ALLOW, rv xr, .val .null, .unset, .unset, .unset, .unset] [(.ref a39)]))) st61 ?_
      refine own_bk (S' := (T51.setTop (mkF m 124 #[iv v0, iv v1, iv v2, iv v3, iv v4, iv (0 : Int32), iv ri, rv r_ALLOW, rv xr, .val .null, rv a39, .unset, .unset, .unset] []))) (fun t_ kont => XS.astore X62.here hx rfl (hb hby at_122) rfl rfl (l' := #[iv v0, iv v1, iv v2, iv v3, iv v4, iv (0 : Int32), iv ri, rv r_ALLOW, rv xr, .val .null, rv a39, .unset, .unset, .unset]) rfl kont) ?_
      refine own_bk (S' := (T51.setTop (mkF m 126 #[iv v0, iv v1, iv v2, iv v3, iv v4, iv (0 : Int32), iv ri, rv r_ALLOW, rv xr, .val .null, rv a39, .unset, .unset, .unset] [(.ref a39)]))) (fun t_ kont => XS.aload X62.here hx rfl (hb hby at_124) rfl rfl kont) ?_
      obtain ⟨cqq80, kqq80, q80a, q80b, q80c⟩ := isOf hZ rfl E66
      obtain ⟨_, _, ⟨T69, L70, k71, n72⟩, -, X73, ⟨Lc74, hQ75, l76, y77, z78⟩, st79⟩ := X62.virtualBack hx (y := (⟨"com/example/portcullis/portcullis/policy/WebDecision", "allowed", "()Z"⟩ : MethodName)) (z := (⟨"com/example/portcullis/portcullis/policy/WebDecision", "allowed", "()Z"⟩ : MethodName)) hown (mvT hZ (hw _ (List.mem_of_getElem? (i := 47) rfl))) (mvT hZ (hw _ (List.mem_of_getElem? (i := 48) rfl))) (notFace_of_selects (args := #[]) (mvT hZ (hw _ (List.mem_of_getElem? (i := 50) rfl)))) (mvT hZ (hw _ (List.mem_of_getElem? (i := 50) rfl))) (mvT hZ (hw _ (List.mem_of_getElem? (i := 49) rfl))) (by decide) (backOf (W := 0) (rm7 l Z a0 hw [] a39 r_ALLOW r_ALLOW (1 : Int32) T51.heap n0 Z67 g49 (G_ALLOW.1.ext O50.2) (by simp)) hZ (hw _ (List.mem_of_getElem? (i := 51) rfl)) (hw _ (List.mem_of_getElem? (i := 16) rfl)) (by decide) (by decide)) q80a q80c (g := (mkF m 126 #[iv v0, iv v1, iv v2, iv v3, iv v4, iv (0 : Int32), iv ri, rv r_ALLOW, rv xr, .val .null, rv a39, .unset, .unset, .unset] [(.ref a39)])) rfl (by rw [hml]; rfl) (Steps.refl _) (argsL := []) (rest := []) (lenOf (by decide +kernel : parseMethodDescriptor "()Z" = some ⟨[], some .boolean⟩) rfl) rfl (by show 2 * 0 + _ ≤ _; exact Nat.le_of_eq rfl) (hb hby at_126) (fun _ _ => ⟨rfl, rfl, (by decide : 5 + 0 ≤ _), (by decide : 63 + 0 ≤ _)⟩)
      dsimp only [Pt.U, Pt.locs, Pt.cells, Pt.slots] at X73 l76 y77 z78 st79 hQ75
      subst l76 y77 z78
      obtain ⟨rfl, N81, e82⟩ := hQ75
      have N83 := Fr.app N65 N81
      refine own_tr (S' := (T69.setTop (mkF m 129 #[iv v0, iv v1, iv v2, iv v3, iv v4, iv (0 : Int32), iv ri, rv r_ALLOW, rv xr, .val .null, rv a39, .unset, .unset, .unset] [(.int (1 : Int32))]))) st79 ?_
      refine own_bk (S' := (T69.setTop (mkF m 131 #[iv v0, iv v1, iv v2, iv v3, iv v4, iv (0 : Int32), iv ri, rv r_ALLOW, rv xr, .val .null, rv a39, iv (1 : Int32), .unset, .unset] []))) (fun t_ kont => XS.istore X73.here hx rfl (hb hby at_129) rfl (l' := #[iv v0, iv v1, iv v2, iv v3, iv v4, iv (0 : Int32), iv ri, rv r_ALLOW, rv xr, .val .null, rv a39, iv (1 : Int32), .unset, .unset]) rfl kont) ?_
      refine own_bk (S' := (T69.setTop (mkF m 133 #[iv v0, iv v1, iv v2, iv v3, iv v4, iv (0 : Int32), iv ri, rv r_ALLOW, rv xr, .val .null, rv a39, iv (1 : Int32), .unset, .unset] [(.ref a39)]))) (fun t_ kont => XS.aload X73.here hx rfl (hb hby at_131) rfl rfl kont) ?_
      obtain ⟨cqq95, kqq95, q95a, q95b, q95c⟩ := isOf hZ e82 E66
      obtain ⟨_, _, ⟨T84, L85, k86, n87⟩, -, X88, ⟨Lc89, hQ90, l91, y92, z93⟩, st94⟩ := X73.virtualBack hx (y := (⟨"com/example/portcullis/portcullis/policy/WebDecision", "allowed", "()Z"⟩ : MethodName)) (z := (⟨"com/example/portcullis/portcullis/policy/WebDecision", "allowed", "()Z"⟩ : MethodName)) hown (mvT hZ (hw _ (List.mem_of_getElem? (i := 47) rfl))) (mvT hZ (hw _ (List.mem_of_getElem? (i := 48) rfl))) (notFace_of_selects (args := #[]) (mvT hZ (hw _ (List.mem_of_getElem? (i := 50) rfl)))) (mvT hZ (hw _ (List.mem_of_getElem? (i := 50) rfl))) (mvT hZ (hw _ (List.mem_of_getElem? (i := 49) rfl))) (by decide) (backOf (W := 0) (rm7 l Z a0 hw [] a39 r_ALLOW r_ALLOW (1 : Int32) T51.heap n0 Z67 g49 (G_ALLOW.1.ext O50.2) (by simp)) hZ (hw _ (List.mem_of_getElem? (i := 51) rfl)) (hw _ (List.mem_of_getElem? (i := 16) rfl)) (by decide) (by decide)) q95a q95c (g := (mkF m 133 #[iv v0, iv v1, iv v2, iv v3, iv v4, iv (0 : Int32), iv ri, rv r_ALLOW, rv xr, .val .null, rv a39, iv (1 : Int32), .unset, .unset] [(.ref a39)])) rfl (by rw [hml]; rfl) (Steps.refl _) (argsL := []) (rest := []) (lenOf (by decide +kernel : parseMethodDescriptor "()Z" = some ⟨[], some .boolean⟩) rfl) rfl (by show 2 * 0 + _ ≤ _; exact Nat.le_of_eq rfl) (hb hby at_133) (fun _ _ => ⟨rfl, e82, (by decide : 5 + 0 ≤ _), (by decide : 63 + 0 ≤ _)⟩)
      dsimp only [Pt.U, Pt.locs, Pt.cells, Pt.slots] at X88 l91 y92 z93 st94 hQ90
      subst l91 y92 z93
      obtain ⟨rfl, N96, e97⟩ := hQ90
      have N98 := Fr.app N83 N96
      refine own_tr (S' := (T84.setTop (mkF m 136 #[iv v0, iv v1, iv v2, iv v3, iv v4, iv (0 : Int32), iv ri, rv r_ALLOW, rv xr, .val .null, rv a39, iv (1 : Int32), .unset, .unset] [(.int (1 : Int32))]))) st94 ?_
      refine own_bk (S' := (T84.setTop (mkF m 138 #[iv v0, iv v1, iv v2, iv v3, iv v4, iv (0 : Int32), iv ri, rv r_ALLOW, rv xr, .val .null, rv a39, iv (1 : Int32), iv (1 : Int32), .unset] []))) (fun t_ kont => XS.istore X88.here hx rfl (hb hby at_136) rfl (l' := #[iv v0, iv v1, iv v2, iv v3, iv v4, iv (0 : Int32), iv ri, rv r_ALLOW, rv xr, .val .null, rv a39, iv (1 : Int32), iv (1 : Int32), .unset]) rfl kont) ?_
      refine own_bk (S' := (T84.setTop (mkF m 140 #[iv v0, iv v1, iv v2, iv v3, iv v4, iv (0 : Int32), iv ri, rv r_ALLOW, rv xr, .val .null, rv a39, iv (1 : Int32), iv (1 : Int32), .unset] [(.int (0 : Int32))]))) (fun t_ kont => XS.iload X88.here hx rfl (hb hby at_138) rfl kont) ?_
      refine own_bk (S' := (T84.setTop (mkF m 143 #[iv v0, iv v1, iv v2, iv v3, iv v4, iv (0 : Int32), iv ri, rv r_ALLOW, rv xr, .val .null, rv a39, iv (1 : Int32), iv (1 : Int32), .unset] []))) (fun t_ kont => XS.ifNo X88.here hx rfl (hb hby at_140) rfl ((if0 _ _).trans (teq (by decide : ((0 : Int32)) = ((0 : Int32)))).2) kont) ?_
      refine own_bk (S' := (T84.setTop (mkF m 144 #[iv v0, iv v1, iv v2, iv v3, iv v4, iv (0 : Int32), iv ri, rv r_ALLOW, rv xr, .val .null, rv a39, iv (1 : Int32), iv (1 : Int32), .unset] [(.int (1 : Int32))]))) (fun t_ kont => XS.iconst X88.here hx rfl (hb hby at_143) kont) ?_
      refine own_bk (S' := (T84.setTop (mkF m 148 #[iv v0, iv v1, iv v2, iv v3, iv v4, iv (0 : Int32), iv ri, rv r_ALLOW, rv xr, .val .null, rv a39, iv (1 : Int32), iv (1 : Int32), .unset] [(.int (1 : Int32))]))) (fun t_ kont => XS.goto X88.here hx rfl (pc0 := 144) (pc' := 148) rfl (hb hby at_144) (by decide) (by decide) kont) ?_
      refine own_bk (S' := (T84.setTop (mkF m 150 #[iv v0, iv v1, iv v2, iv v3, iv v4, iv (0 : Int32), iv ri, rv r_ALLOW, rv xr, .val .null, rv a39, iv (1 : Int32), iv (1 : Int32), iv (1 : Int32)] []))) (fun t_ kont => XS.istore X88.here hx rfl (hb hby at_148) rfl (l' := #[iv v0, iv v1, iv v2, iv v3, iv v4, iv (0 : Int32), iv ri, rv r_ALLOW, rv xr, .val .null, rv a39, iv (1 : Int32), iv (1 : Int32), iv (1 : Int32)]) rfl kont) ?_
      refine own_bk (S' := (T84.setTop (mkF m 152 #[iv v0, iv v1, iv v2, iv v3, iv v4, iv (0 : Int32), iv ri, rv r_ALLOW, rv xr, .val .null, rv a39, iv (1 : Int32), iv (1 : Int32), iv (1 : Int32)] [(.int (1 : Int32))]))) (fun t_ kont => XS.iload X88.here hx rfl (hb hby at_150) rfl kont) ?_
      refine own_bk (S' := (T84.setTop (mkF m 154 #[iv v0, iv v1, iv v2, iv v3, iv v4, iv (0 : Int32), iv ri, rv r_ALLOW, rv xr, .val .null, rv a39, iv (1 : Int32), iv (1 : Int32), iv (1 : Int32)] [(.int (1 : Int32)), (.int (1 : Int32))]))) (fun t_ kont => XS.iload X88.here hx rfl (hb hby at_152) rfl kont) ?_
      refine own_bk (S' := (T84.setTop (mkF m 157 #[iv v0, iv v1, iv v2, iv v3, iv v4, iv (0 : Int32), iv ri, rv r_ALLOW, rv xr, .val .null, rv a39, iv (1 : Int32), iv (1 : Int32), iv (1 : Int32)] []))) (fun t_ kont => XS.icmpNo X88.here hx rfl (hb hby at_154) rfl (teq (by decide : ((1 : Int32)) = ((1 : Int32)))).2 kont) ?_
      refine own_bk (S' := (T84.setTop (mkF m 159 #[iv v0, iv v1, iv v2, iv v3, iv v4, iv (0 : Int32), iv ri, rv r_ALLOW, rv xr, .val .null, rv a39, iv (1 : Int32), iv (1 : Int32), iv (1 : Int32)] [(.int (1 : Int32))]))) (fun t_ kont => XS.iload X88.here hx rfl (hb hby at_157) rfl kont) ?_
      refine own_bk (S' := (T84.setTop (mkF m 161 #[iv v0, iv v1, iv v2, iv v3, iv v4, iv (0 : Int32), iv ri, rv r_ALLOW, rv xr, .val .null, rv a39, iv (1 : Int32), iv (1 : Int32), iv (1 : Int32)] [(.int (1 : Int32)), (.int (1 : Int32))]))) (fun t_ kont => XS.iload X88.here hx rfl (hb hby at_159) rfl kont) ?_
      refine own_bk (S' := (T84.setTop (mkF m 164 #[iv v0, iv v1, iv v2, iv v3, iv v4, iv (0 : Int32), iv ri, rv r_ALLOW, rv xr, .val .null, rv a39, iv (1 : Int32), iv (1 : Int32), iv (1 : Int32)] []))) (fun t_ kont => XS.icmpNo X88.here hx rfl (hb hby at_161) rfl (teq (by decide : ((1 : Int32)) = ((1 : Int32)))).2 kont) ?_
      refine own_bk (S' := (T84.setTop (mkF m 165 #[iv v0, iv v1, iv v2, iv v3, iv v4, iv (0 : Int32), iv ri, rv r_ALLOW, rv xr, .val .null, rv a39, iv (1 : Int32), iv (1 : Int32), iv (1 : Int32)] [(.int (1 : Int32))]))) (fun t_ kont => XS.iconst X88.here hx rfl (hb hby at_164) kont) ?_
      refine own_bk (S' := (T84.setTop (mkF m 169 #[iv v0, iv v1, iv v2, iv v3, iv v4, iv (0 : Int32), iv ri, rv r_ALLOW, rv xr, .val .null, rv a39, iv (1 : Int32), iv (1 : Int32), iv (1 : Int32)] [(.int (1 : Int32))]))) (fun t_ kont => XS.goto X88.here hx rfl (pc0 := 165) (pc' := 169) rfl (hb hby at_165) (by decide) (by decide) kont) ?_
      exact own_retNW hS X88 (by rw [show T84.heap = T51.heap from e97]; exact (Nat.le_refl _)) hx hlk (t := .boolean) (w := (1 : Int32)) Bd.returns (by simp) (hb hby at_169) rfl ⟨rfl, N98⟩ (by decide) (by decide)
    · refine own_bk (S' := (T16.setTop (mkF m 37 #[iv v0, iv v1, iv v2, iv v3, iv v4, iv (0 : Int32), iv ri, rv r_ALLOW, rv xr, .val .null, .unset, .unset, .unset, .unset] []))) (fun t_ kont => XS.ifNo X20.here hx rfl (hb hby at_34) rfl ((if0 _ _).trans (feq (hc30)).1) kont) ?_
      refine own_bk (S' := (T16.setTop (mkF m 38 #[iv v0, iv v1, iv v2, iv v3, iv v4, iv (0 : Int32), iv ri, rv r_ALLOW, rv xr, .val .null, .unset, .unset, .unset, .unset] [(.int v2)]))) (fun t_ kont => XS.iloadN X20.here hx rfl (hb hby at_37) rfl kont) ?_
      refine own_bk (S' := (T16.setTop (mkF m 39 #[iv v0, iv v1, iv v2, iv v3, iv v4, iv (0 : Int32), iv ri, rv r_ALLOW, rv xr, .val .null, .unset, .unset, .unset, .unset] [(.int (2 : Int32)), (.int v2)]))) (fun t_ kont => XS.iconst X20.here hx rfl (hb hby at_38) kont) ?_
      refine own_bk (S' := (T16.setTop (mkF m 40 #[iv v0, iv v1, iv v2, iv v3, iv v4, iv (0 : Int32), iv ri, rv r_ALLOW, rv xr, .val .null, .unset, .unset, .unset, .unset] [(.int (v2 &&& (2 : Int32)))]))) (fun t_ kont => XS.iand X20.here hx rfl (hb hby at_39) rfl kont) ?_
      by_cases hc99 : ((v2 &&& (2 : Int32))) = ((0 : Int32))
      · refine own_bk (S' := (T16.setTop (mkF m 83 #[iv v0, iv v1, iv v2, iv v3, iv v4, iv (0 : Int32), iv ri, rv r_ALLOW, rv xr, .val .null, .unset, .unset, .unset, .unset] []))) (fun t_ kont => XS.ifYes X20.here hx rfl (pc0 := 40) (pc' := 83) rfl (hb hby at_40) rfl ((if0 _ _).trans (teq (hc99)).1) (by decide) (by decide) kont) ?_
        refine own_bk (S' := (T16.setTop (mkF m 84 #[iv v0, iv v1, iv v2, iv v3, iv v4, iv (0 : Int32), iv ri, rv r_ALLOW, rv xr, .val .null, .unset, .unset, .unset, .unset] [(.int (1 : Int32))]))) (fun t_ kont => XS.iconst X20.here hx rfl (hb hby at_83) kont) ?_
        obtain ⟨T100, h101, k102, X103, e104, E105, A106, st107⟩ := newP X20 hx hZ (hw _ (List.mem_of_getElem? (i := 59) rfl)) e28 (g := (mkF m 84 #[iv v0, iv v1, iv v2, iv v3, iv v4, iv (0 : Int32), iv ri, rv r_ALLOW, rv xr, .val .null, .unset, .unset, .unset, .unset] [(.int (1 : Int32))])) rfl (hb hby at_84) rfl (by decide : ¬ ((1 : Int32) < (0 : Int32))) (cap := 1) (by decide : (1 : Int32).toNatClampNeg ≤ 1) (by decide) (by decide) (by decide)
        obtain ⟨a108, g109⟩ : ∃ z, z = h0.size := ⟨_, rfl⟩
        rw [← g109] at A106 st107
        have ag111 : n0 ≤ a108 := Nat.le_trans Z0 (Nat.le_of_eq g109.symm)
        have Z112 := Nat.le_trans Z0 E105.1
        have hk113 := Nat.le_trans hk0 E105.1
        have O114 := O.ext E105
        have V110 : Arv Z h101 a108 k102 .char (1 : Int32) [] (.int (0 : Int32)) := (Arv.new A106 (by decide : ¬ ((1 : Int32) < (0 : Int32))))
        have V115 : Arv Z h101 a108 k102 .char (1 : Int32) [(.int (0 : Int32))] (.int (0 : Int32)) := (V110.pad (pad_rep [] (.int (0 : Int32)) 1))
        refine own_bk (S' := (T100.setTop (mkF m 86 #[iv v0, iv v1, iv v2, iv v3, iv v4, iv (0 : Int32), iv ri, rv r_ALLOW, rv xr, .val .null, .unset, .unset, .unset, .unset] [(.ref a108)]))) st107 ?_
        refine own_bk (S' := (T100.setTop (mkF m 88 #[iv v0, iv v1, iv v2, iv v3, iv v4, iv (0 : Int32), iv ri, rv r_ALLOW, rv xr, .val .null, rv a108, .unset, .unset, .unset] []))) (fun t_ kont => XS.astore X103.here hx rfl (hb hby at_86) rfl rfl (l' := #[iv v0, iv v1, iv v2, iv v3, iv v4, iv (0 : Int32), iv ri, rv r_ALLOW, rv xr, .val .null, rv a108, .unset, .unset, .unset]) rfl kont) ?_
        refine own_bk (S' := (T100.setTop (mkF m 90 #[iv v0, iv v1, iv v2, iv v3, iv v4, iv (0 : Int32), iv ri, rv r_ALLOW, rv xr, .val .null, rv a108, .unset, .unset, .unset] [(.ref a108)]))) (fun t_ kont => XS.aload X103.here hx rfl (hb hby at_88) rfl rfl kont) ?_
        refine own_bk (S' := (T100.setTop (mkF m 91 #[iv v0, iv v1, iv v2, iv v3, iv v4, iv (0 : Int32), iv ri, rv r_ALLOW, rv xr, .val .null, rv a108, .unset, .unset, .unset] [(.int (0 : Int32)), (.ref a108)]))) (fun t_ kont => XS.iconst X103.here hx rfl (hb hby at_90) kont) ?_
        refine own_bk (S' := (T100.setTop (mkF m 92 #[iv v0, iv v1, iv v2, iv v3, iv v4, iv (0 : Int32), iv ri, rv r_ALLOW, rv xr, .val .null, rv a108, .unset, .unset, .unset] [(.int v3), (.int (0 : Int32)), (.ref a108)]))) (fun t_ kont => XS.iloadN X103.here hx rfl (hb hby at_91) rfl kont) ?_
        refine own_bk (S' := (T100.setTop (mkF m 95 #[iv v0, iv v1, iv v2, iv v3, iv v4, iv (0 : Int32), iv ri, rv r_ALLOW, rv xr, .val .null, rv a108, .unset, .unset, .unset] [(.int (255 : Int32)), (.int v3), (.int (0 : Int32)), (.ref a108)]))) (fun t_ kont => XS.sipush X103.here hx rfl (hb hby at_92) kont) ?_
        refine own_bk (S' := (T100.setTop (mkF m 96 #[iv v0, iv v1, iv v2, iv v3, iv v4, iv (0 : Int32), iv ri, rv r_ALLOW, rv xr, .val .null, rv a108, .unset, .unset, .unset] [(.int (v3 &&& (255 : Int32))), (.int (0 : Int32)), (.ref a108)]))) (fun t_ kont => XS.iand X103.here hx rfl (hb hby at_95) rfl kont) ?_
        refine own_bk (S' := (T100.setTop (mkF m 97 #[iv v0, iv v1, iv v2, iv v3, iv v4, iv (0 : Int32), iv ri, rv r_ALLOW, rv xr, .val .null, rv a108, .unset, .unset, .unset] [(.int ((v3 &&& (255 : Int32)).toUInt32.toUInt16.toUInt32.toInt32)), (.int (0 : Int32)), (.ref a108)]))) (fun t_ kont => XS.i2c X103.here hx rfl (hb hby at_96) rfl kont) ?_
        obtain ⟨c116, A117, q118, S119, M120, H121, U122⟩ := id V115
        obtain ⟨T123, h124, X125, e126, W127, st128⟩ := stC X103 hx hZ e104 A117 (j := (0 : Int32)) (inb_of S119 ⟨(by decide : ¬ ((0 : Int32) < (0 : Int32))), (by decide : (0 : Int32) < (1 : Int32))⟩) (g := (mkF m 97 #[iv v0, iv v1, iv v2, iv v3, iv v4, iv (0 : Int32), iv ri, rv r_ALLOW, rv xr, .val .null, rv a108, .unset, .unset, .unset] [(.int ((v3 &&& (255 : Int32)).toUInt32.toUInt16.toUInt32.toInt32)), (.int (0 : Int32)), (.ref a108)])) rfl rfl (hb hby at_97)
        have N129 := Fr.snoc X125 N29 ag111
        have Z130 := Nat.le_trans Z112 (Keep.of_wr W127).1
        have hk131 := Nat.le_trans hk113 (Keep.of_wr W127).1
        have O132 := O114.wr W127 ag111
        have V133 : Arv Z h124 a108 k102 .char (1 : Int32) [(.int (nar .char ((v3 &&& (255 : Int32)).toUInt32.toUInt16.toUInt32.toInt32)))] (.int (0 : Int32)) := (Arv.set A117 q118 S119 M120 H121 U122 (fits_nar_char _) W127 0 rfl (Nat.le_of_ble_eq_true rfl))
        refine own_bk (S' := (T123.setTop (mkF m 98 #[iv v0, iv v1, iv v2, iv v3, iv v4, iv (0 : Int32), iv ri, rv r_ALLOW, rv xr, .val .null, rv a108, .unset, .unset, .unset] []))) st128 ?_
        obtain ⟨T134, h135, X136, e137, E138, A139, D140, -, st141⟩ := newO X125 hx hZ hown (hw _ (List.mem_of_getElem? (i := 60) rfl)) (hw _ (List.mem_of_getElem? (i := 30) rfl)) (hw _ (List.mem_of_getElem? (i := 29) rfl)) e126 (g := (mkF m 98 #[iv v0, iv v1, iv v2, iv v3, iv v4, iv (0 : Int32), iv ri, rv r_ALLOW, rv xr, .val .null, rv a108, .unset, .unset, .unset] [])) rfl (hb hby at_98) (by decide) (by decide)
        obtain ⟨a142, g143⟩ : ∃ z, z = h124.size := ⟨_, rfl⟩
        rw [← g143] at A139 D140 st141
        have ne144 : a108 ≠ a142 := Nat.ne_of_lt (Nat.lt_of_lt_of_le V133.lt (Nat.le_of_eq g143.symm))
        have ag145 : n0 ≤ a142 := Nat.le_trans Z130 (Nat.le_of_eq g143.symm)
        have V146 := (V133.ext E138)
        have Z147 := Nat.le_trans Z130 E138.1
        have hk148 := Nat.le_trans hk131 E138.1
        have O149 := O132.ext E138
        have F150 : Fld Z h135 a142 "java/lang/String" "value" "[B" .null := (D140 (Or.inr (hw _ (List.mem_of_getElem? (i := 32) rfl))) (ty := (.array .byte)) (by decide +kernel))
        have F151 : Fld Z h135 a142 "java/lang/String" "coder" "B" (.int (0 : Int32)) := (D140 (Or.inr (hw _ (List.mem_of_getElem? (i := 33) rfl))) (ty := .byte) (by decide +kernel))
        refine own_bk (S' := (T134.setTop (mkF m 101 #[iv v0, iv v1, iv v2, iv v3, iv v4, iv (0 : Int32), iv ri, rv r_ALLOW, rv xr, .val .null, rv a108, .unset, .unset, .unset] [(.ref a142)]))) st141 ?_
        refine own_bk (S' := (T134.setTop (mkF m 102 #[iv v0, iv v1, iv v2, iv v3, iv v4, iv (0 : Int32), iv ri, rv r_ALLOW, rv xr, .val .null, rv a108, .unset, .unset, .unset] [(.ref a142), (.ref a142)]))) (fun t_ kont => XS.dup X136.here hx rfl (hb hby at_101) rfl rfl kont) ?_
        refine own_bk (S' := (T134.setTop (mkF m 104 #[iv v0, iv v1, iv v2, iv v3, iv v4, iv (0 : Int32), iv ri, rv r_ALLOW, rv xr, .val .null, rv a108, .unset, .unset, .unset] [(.ref a108), (.ref a142), (.ref a142)]))) (fun t_ kont => XS.aload X136.here hx rfl (hb hby at_102) rfl rfl kont) ?_
        have hp152 : ∀ c ∈ ([(nar .char ((v3 &&& (255 : Int32)).toUInt32.toUInt16.toUInt32.toInt32))] : List Int32), ¬ c < 0 ∧ ¬ (255 : Int32) < c := by
          intro c hc; simp only [List.mem_cons, List.not_mem_nil, or_false] at hc; rcases hc with rfl
          · exact own_n255 v3
        have hws153 : ∀ d ∈ StrChars.Road.words, d.before a0 Z = true := fun d hd => hw d ((by decide +kernel : ∀ d ∈ StrChars.Road.words, d ∈ tables_1) d hd)
        obtain ⟨_, _, ⟨T164, L165, k166, n167⟩, -, X168, ⟨Lc169, hQ170, l171, y172, z173⟩, st174⟩ := X136.specialBack hx (y := (⟨"java/lang/String", "<init>", "([C)V"⟩ : MethodName)) rfl hown (mvT hZ (hw _ (List.mem_of_getElem? (i := 61) rfl))) (mvT hZ (hw _ (List.mem_of_getElem? (i := 62) rfl))) (mvT hZ (hw _ (List.mem_of_getElem? (i := 63) rfl))) (by decide) (StrChars.Road.backV (W := 1) hZ hws153 (kI := 4) (hw _ (List.mem_of_getElem? (i := 30) rfl)) (cs := ([(nar .char ((v3 &&& (255 : Int32)).toUInt32.toUInt16.toUInt32.toInt32))] : List Int32)) (bs := (([(nar .char ((v3 &&& (255 : Int32)).toUInt32.toUInt16.toUInt32.toInt32))] : List Int32)).map (fun c => c.toInt8.toInt32)) (n := 1) ag145 Z147 A139 F150 F151 V146 (SC.ext O149.2) hcz rfl rfl (by decide) (by decide) hp152 rfl (by decide) (by decide)) (g := (mkF m 104 #[iv v0, iv v1, iv v2, iv v3, iv v4, iv (0 : Int32), iv ri, rv r_ALLOW, rv xr, .val .null, rv a108, .unset, .unset, .unset] [(.ref a108), (.ref a142), (.ref a142)])) rfl (by rw [hml]; rfl) (Steps.refl _) (a := a142) (argsL := [(.ref a108)]) (rest := [(.ref a142)]) (lenOf (by decide +kernel : parseMethodDescriptor "([C)V" = some ⟨[(.array .char)], none⟩) rfl) rfl (by show 2 * 0 + _ ≤ _; exact Nat.le_of_eq rfl) (hb hby at_104) (fun _ _ => ⟨rfl, e137, (by decide : 2 + 1 ≤ _), (by decide : 5 + 1 ≤ _)⟩)
        dsimp only [Pt.U, Pt.locs, Pt.cells, Pt.slots] at X168 l171 y172 z173 st174 hQ170
        subst l171 y172 z173
        obtain ⟨rfl, N175, K154, g162, g157, t155, kb156, u159, u160, u161, g158, V163⟩ := hQ170
        have N177 := Fr.app N129 N175
        have V178 := (V146.keep K154 (ninS ne144 nin0))
        have E179 := (A139.keep K154)
        have Z180 := Nat.le_trans Z147 K154.1
        have hk181 := Nat.le_trans hk148 K154.1
        have O182 := O149.keep K154 (allS ag145 all0)
        refine own_tr (S' := (T164.setTop (mkF m 107 #[iv v0, iv v1, iv v2, iv v3, iv v4, iv (0 : Int32), iv ri, rv r_ALLOW, rv xr, .val .null, rv a108, .unset, .unset, .unset] [(.ref a142)]))) st174 ?_
        refine own_bk (S' := (T164.setTop (mkF m 109 #[iv v0, iv v1, iv v2, iv v3, iv v4, iv (0 : Int32), iv ri, rv r_ALLOW, rv xr, rv a142, rv a108, .unset, .unset, .unset] []))) (fun t_ kont => XS.astore X168.here hx rfl (hb hby at_107) rfl rfl (l' := #[iv v0, iv v1, iv v2, iv v3, iv v4, iv (0 : Int32), iv ri, rv r_ALLOW, rv xr, rv a142, rv a108, .unset, .unset, .unset]) rfl kont) ?_
        obtain ⟨T183, h184, X185, e186, E187, A188, D189, -, st190⟩ := newO X168 hx hZ hown (hw _ (List.mem_of_getElem? (i := 14) rfl)) (hw _ (List.mem_of_getElem? (i := 15) rfl)) (hw _ (List.mem_of_getElem? (i := 16) rfl)) rfl (g := (mkF m 109 #[iv v0, iv v1, iv v2, iv v3, iv v4, iv (0 : Int32), iv ri, rv r_ALLOW, rv xr, rv a142, rv a108, .unset, .unset, .unset] [])) rfl (hb hby at_109) (by decide) (by decide)
        obtain ⟨a191, g192⟩ : ∃ z, z = T164.heap.size := ⟨_, rfl⟩
        rw [← g192] at A188 D189 st190
        have ag193 : n0 ≤ a191 := Nat.le_trans Z180 (Nat.le_of_eq g192.symm)
        have Z194 := Nat.le_trans Z180 E187.1
        have hk195 := Nat.le_trans hk181 E187.1
        have O196 := O182.ext E187
        have F197 : Fld Z h184 a191 "com/example/portcullis/portcullis/policy/WebDecision" "pattern" "Ljava/lang/String;" .null := (D189 (Or.inr (hw _ (List.mem_of_getElem? (i := 42) rfl))) (ty := (.object "java/lang/String")) (by decide +kernel))
        have F198 : Fld Z h184 a191 "com/example/portcullis/portcullis/policy/WebDecision" "outcome" "Lcom/example/portcullis/portcullis/policy/WebDecision$Outcome;" .null := (D189 (Or.inr (hw _ (List.mem_of_getElem? (i := 44) rfl))) (ty := (.object "com/example/portcullis/portcullis/policy/WebDecision$Outcome")) (by decide +kernel))
        have F199 : Fld Z h184 a191 "com/example/portcullis/portcullis/policy/WebDecision" "reason" "Lcom/example/portcullis/portcullis/policy/WebDecision$Reason;" .null := (D189 (Or.inr (hw _ (List.mem_of_getElem? (i := 46) rfl))) (ty := (.object "com/example/portcullis/portcullis/policy/WebDecision$Reason")) (by decide +kernel))
        refine own_bk (S' := (T183.setTop (mkF m 112 #[iv v0, iv v1, iv v2, iv v3, iv v4, iv (0 : Int32), iv ri, rv r_ALLOW, rv xr, rv a142, rv a108, .unset, .unset, .unset] [(.ref a191)]))) st190 ?_
        refine own_bk (S' := (T183.setTop (mkF m 113 #[iv v0, iv v1, iv v2, iv v3, iv v4, iv (0 : Int32), iv ri, rv r_ALLOW, rv xr, rv a142, rv a108, .unset, .unset, .unset] [(.ref a191), (.ref a191)]))) (fun t_ kont => XS.dup X185.here hx rfl (hb hby at_112) rfl rfl kont) ?_
        refine own_bk (S' := (T183.setTop (mkF m 115 #[iv v0, iv v1, iv v2, iv v3, iv v4, iv (0 : Int32), iv ri, rv r_ALLOW, rv xr, rv a142, rv a108, .unset, .unset, .unset] [(.ref a142), (.ref a191), (.ref a191)]))) (fun t_ kont => XS.aload X185.here hx rfl (hb hby at_113) rfl rfl kont) ?_
        refine own_bk (S' := (T183.setTop (mkF m 117 #[iv v0, iv v1, iv v2, iv v3, iv v4, iv (0 : Int32), iv ri, rv r_ALLOW, rv xr, rv a142, rv a108, .unset, .unset, .unset] [(.ref r_ALLOW), (.ref a142), (.ref a191), (.ref a191)]))) (fun t_ kont => XS.aload X185.here hx rfl (hb hby at_115) rfl rfl kont) ?_
        refine own_bk (S' := (T183.setTop (mkF m 119 #[iv v0, iv v1, iv v2, iv v3, iv v4, iv (0 : Int32), iv ri, rv r_ALLOW, rv xr, rv a142, rv a108, .unset, .unset, .unset] [(.ref xr), (.ref r_ALLOW), (.ref a142), (.ref a191), (.ref a191)]))) (fun t_ kont => XS.aload X185.here hx rfl (hb hby at_117) rfl rfl kont) ?_
        obtain ⟨_, _, ⟨T203, L204, k205, n206⟩, -, X207, hS2_, hgr_, ⟨Lc208, hQ209, l210, y211, z212⟩, st213⟩ := X185.specialBackS hx (y := (⟨"com/example/portcullis/portcullis/policy/WebDecision", "<init>", "(Ljava/lang/String;Lcom/example/portcullis/portcullis/policy/WebDecision$Outcome;Lcom/example/portcullis/portcullis/policy/WebDecision$Reason;)V"⟩ : MethodName)) rfl hown (mvT hZ (hw _ (List.mem_of_getElem? (i := 17) rfl))) (mvT hZ (hw _ (List.mem_of_getElem? (i := 18) rfl))) (mvT hZ (hw _ (List.mem_of_getElem? (i := 19) rfl))) (by decide) (backOfS (W := 1) (rm3R l Z a0 hw [] a191 a142 r_ALLOW xr h184 n0 Z194 O196 A188 ag193 F197 F198 F199) hZ (hw _ (List.mem_of_getElem? (i := 19) rfl)) (hw _ (List.mem_of_getElem? (i := 16) rfl)) (by decide) (by decide)) (g := (mkF m 119 #[iv v0, iv v1, iv v2, iv v3, iv v4, iv (0 : Int32), iv ri, rv r_ALLOW, rv xr, rv a142, rv a108, .unset, .unset, .unset] [(.ref xr), (.ref r_ALLOW), (.ref a142), (.ref a191), (.ref a191)])) rfl (by rw [hml]; rfl) (Steps.refl _) (a := a191) (argsL := [(.ref a142), (.ref r_ALLOW), (.ref xr)]) (rest := [(.ref a191)]) (lenOf (by decide +kernel : parseMethodDescriptor "(Ljava/lang/String;Lcom/example/portcullis/portcullis/policy/WebDecision$Outcome;Lcom/example/portcullis/portcullis/policy/WebDecision$Reason;)V" = some ⟨[(.object "java/lang/String"), (.object "com/example/portcullis/portcullis/policy/WebDecision$Outcome"), (.object "com/example/portcullis/portcullis/policy/WebDecision$Reason")], none⟩) rfl) rfl (by show 2 * 0 + _ ≤ _; exact Nat.le_of_eq rfl) (hb hby at_119) (fun _ _ => ⟨rfl, e186, (by decide : 4 + 4 ≤ _), (by decide : 9 + 60 ≤ _)⟩)
        dsimp only [Pt.U, Pt.locs, Pt.cells, Pt.slots] at X207 l210 y211 z212 st213 hQ209 hS2_ hgr_
        subst l210 y211 z212
        obtain ⟨X214, hS, hZ, hown⟩ := rebS hS (by rw [show T183.heap = h184 from e186]; exact hk195) X207 hS2_ hgr_ hZ hown
        obtain ⟨rfl, N215, O202, K200, g201⟩ := hQ209
        have N217 := Fr.app N177 N215
        have E218 := (A188.keep K200)
        have Z219 := Nat.le_trans Z194 K200.1
        have O220 := O196.keep K200 (allS ag193 all0)
        refine own_tr (S' := (T203.setTop (mkF m 122 #[iv v0, iv v1, iv v2, iv v3, iv v4, iv (0 : Int32), iv ri, rv r_ALLOW, rv xr, rv a142, rv a108, .unset, .unset, .unset] [(.ref a191)]))) st213 ?_
        refine own_bk (S' := (T203.setTop (mkF m 124 #[iv v0, iv v1, iv v2, iv v3, iv v4, iv (0 : Int32), iv ri, rv r_ALLOW, rv xr, rv a142, rv a191, .unset, .unset, .unset] []))) (fun t_ kont => XS.astore X214.here hx rfl (hb hby at_122) rfl rfl (l' := #[iv v0, iv v1, iv v2, iv v3, iv v4, iv (0 : Int32), iv ri, rv r_ALLOW, rv xr, rv a142, rv a191, .unset, .unset, .unset]) rfl kont) ?_
        refine own_bk (S' := (T203.setTop (mkF m 126 #[iv v0, iv v1, iv v2, iv v3, iv v4, iv (0 : Int32), iv ri, rv r_ALLOW, rv xr, rv a142, rv a191, .unset, .unset, .unset] [(.ref a191)]))) (fun t_ kont => XS.aload X214.here hx rfl (hb hby at_124) rfl rfl kont) ?_
        obtain ⟨cqq232, kqq232, q232a, q232b, q232c⟩ := isOf hZ rfl E218
        obtain ⟨_, _, ⟨T221, L222, k223, n224⟩, -, X225, ⟨Lc226, hQ227, l228, y229, z230⟩, st231⟩ := X214.virtualBack hx (y := (⟨"com/example/portcullis/portcullis/policy/WebDecision", "allowed", "()Z"⟩ : MethodName)) (z := (⟨"com/example/portcullis/portcullis/policy/WebDecision", "allowed", "()Z"⟩ : MethodName)) hown (mvT hZ (hw _ (List.mem_of_getElem? (i := 47) rfl))) (mvT hZ (hw _ (List.mem_of_getElem? (i := 48) rfl))) (notFace_of_selects (args := #[]) (mvT hZ (hw _ (List.mem_of_getElem? (i := 50) rfl)))) (mvT hZ (hw _ (List.mem_of_getElem? (i := 50) rfl))) (mvT hZ (hw _ (List.mem_of_getElem? (i := 49) rfl))) (by decide) (backOf (W := 0) (rm7 l Z a0 hw [] a191 r_ALLOW r_ALLOW (1 : Int32) T203.heap n0 Z219 g201 (G_ALLOW.1.ext O202.2) (by simp)) hZ (hw _ (List.mem_of_getElem? (i := 51) rfl)) (hw _ (List.mem_of_getElem? (i := 16) rfl)) (by decide) (by decide)) q232a q232c (g := (mkF m 126 #[iv v0, iv v1, iv v2, iv v3, iv v4, iv (0 : Int32), iv ri, rv r_ALLOW, rv xr, rv a142, rv a191, .unset, .unset, .unset] [(.ref a191)])) rfl (by rw [hml]; rfl) (Steps.refl _) (argsL := []) (rest := []) (lenOf (by decide +kernel : parseMethodDescriptor "()Z" = some ⟨[], some .boolean⟩) rfl) rfl (by show 2 * 0 + _ ≤ _; exact Nat.le_of_eq rfl) (hb hby at_126) (fun _ _ => ⟨rfl, rfl, (by decide : 8 + 0 ≤ _), (by decide : 69 + 0 ≤ _)⟩)
        dsimp only [Pt.U, Pt.locs, Pt.cells, Pt.slots] at X225 l228 y229 z230 st231 hQ227
        subst l228 y229 z230
        obtain ⟨rfl, N233, e234⟩ := hQ227
        have N235 := Fr.app N217 N233
        refine own_tr (S' := (T221.setTop (mkF m 129 #[iv v0, iv v1, iv v2, iv v3, iv v4, iv (0 : Int32), iv ri, rv r_ALLOW, rv xr, rv a142, rv a191, .unset, .unset, .unset] [(.int (1 : Int32))]))) st231 ?_
        refine own_bk (S' := (T221.setTop (mkF m 131 #[iv v0, iv v1, iv v2, iv v3, iv v4, iv (0 : Int32), iv ri, rv r_ALLOW, rv xr, rv a142, rv a191, iv (1 : Int32), .unset, .unset] []))) (fun t_ kont => XS.istore X225.here hx rfl (hb hby at_129) rfl (l' := #[iv v0, iv v1, iv v2, iv v3, iv v4, iv (0 : Int32), iv ri, rv r_ALLOW, rv xr, rv a142, rv a191, iv (1 : Int32), .unset, .unset]) rfl kont) ?_
        refine own_bk (S' := (T221.setTop (mkF m 133 #[iv v0, iv v1, iv v2, iv v3, iv v4, iv (0 : Int32), iv ri, rv r_ALLOW, rv xr, rv a142, rv a191, iv (1 : Int32), .unset, .unset] [(.ref a191)]))) (fun t_ kont => XS.aload X225.here hx rfl (hb hby at_131) rfl rfl kont) ?_
        obtain ⟨cqq247, kqq247, q247a, q247b, q247c⟩ := isOf hZ e234 E218
        obtain ⟨_, _, ⟨T236, L237, k238, n239⟩, -, X240, ⟨Lc241, hQ242, l243, y244, z245⟩, st246⟩ := X225.virtualBack hx (y := (⟨"com/example/portcullis/portcullis/policy/WebDecision", "allowed", "()Z"⟩ : MethodName)) (z := (⟨"com/example/portcullis/portcullis/policy/WebDecision", "allowed", "()Z"⟩ : MethodName)) hown (mvT hZ (hw _ (List.mem_of_getElem? (i := 47) rfl))) (mvT hZ (hw _ (List.mem_of_getElem? (i := 48) rfl))) (notFace_of_selects (args := #[]) (mvT hZ (hw _ (List.mem_of_getElem? (i := 50) rfl)))) (mvT hZ (hw _ (List.mem_of_getElem? (i := 50) rfl))) (mvT hZ (hw _ (List.mem_of_getElem? (i := 49) rfl))) (by decide) (backOf (W := 0) (rm7 l Z a0 hw [] a191 r_ALLOW r_ALLOW (1 : Int32) T203.heap n0 Z219 g201 (G_ALLOW.1.ext O202.2) (by simp)) hZ (hw _ (List.mem_of_getElem? (i := 51) rfl)) (hw _ (List.mem_of_getElem? (i := 16) rfl)) (by decide) (by decide)) q247a q247c (g := (mkF m 133 #[iv v0, iv v1, iv v2, iv v3, iv v4, iv (0 : Int32), iv ri, rv r_ALLOW, rv xr, rv a142, rv a191, iv (1 : Int32), .unset, .unset] [(.ref a191)])) rfl (by rw [hml]; rfl) (Steps.refl _) (argsL := []) (rest := []) (lenOf (by decide +kernel : parseMethodDescriptor "()Z" = some ⟨[], some .boolean⟩) rfl) rfl (by show 2 * 0 + _ ≤ _; exact Nat.le_of_eq rfl) (hb hby at_133) (fun _ _ => ⟨rfl, e234, (by decide : 8 + 0 ≤ _), (by decide : 69 + 0 ≤ _)⟩)
        dsimp only [Pt.U, Pt.locs, Pt.cells, Pt.slots] at X240 l243 y244 z245 st246 hQ242
        subst l243 y244 z245
        obtain ⟨rfl, N248, e249⟩ := hQ242
        have N250 := Fr.app N235 N248
        refine own_tr (S' := (T236.setTop (mkF m 136 #[iv v0, iv v1, iv v2, iv v3, iv v4, iv (0 : Int32), iv ri, rv r_ALLOW, rv xr, rv a142, rv a191, iv (1 : Int32), .unset, .unset] [(.int (1 : Int32))]))) st246 ?_
        refine own_bk (S' := (T236.setTop (mkF m 138 #[iv v0, iv v1, iv v2, iv v3, iv v4, iv (0 : Int32), iv ri, rv r_ALLOW, rv xr, rv a142, rv a191, iv (1 : Int32), iv (1 : Int32), .unset] []))) (fun t_ kont => XS.istore X240.here hx rfl (hb hby at_136) rfl (l' := #[iv v0, iv v1, iv v2, iv v3, iv v4, iv (0 : Int32), iv ri, rv r_ALLOW, rv xr, rv a142, rv a191, iv (1 : Int32), iv (1 : Int32), .unset]) rfl kont) ?_
        refine own_bk (S' := (T236.setTop (mkF m 140 #[iv v0, iv v1, iv v2, iv v3, iv v4, iv (0 : Int32), iv ri, rv r_ALLOW, rv xr, rv a142, rv a191, iv (1 : Int32), iv (1 : Int32), .unset] [(.int (0 : Int32))]))) (fun t_ kont => XS.iload X240.here hx rfl (hb hby at_138) rfl kont) ?_
        refine own_bk (S' := (T236.setTop (mkF m 143 #[iv v0, iv v1, iv v2, iv v3, iv v4, iv (0 : Int32), iv ri, rv r_ALLOW, rv xr, rv a142, rv a191, iv (1 : Int32), iv (1 : Int32), .unset] []))) (fun t_ kont => XS.ifNo X240.here hx rfl (hb hby at_140) rfl ((if0 _ _).trans (teq (by decide : ((0 : Int32)) = ((0 : Int32)))).2) kont) ?_
        refine own_bk (S' := (T236.setTop (mkF m 144 #[iv v0, iv v1, iv v2, iv v3, iv v4, iv (0 : Int32), iv ri, rv r_ALLOW, rv xr, rv a142, rv a191, iv (1 : Int32), iv (1 : Int32), .unset] [(.int (1 : Int32))]))) (fun t_ kont => XS.iconst X240.here hx rfl (hb hby at_143) kont) ?_
        refine own_bk (S' := (T236.setTop (mkF m 148 #[iv v0, iv v1, iv v2, iv v3, iv v4, iv (0 : Int32), iv ri, rv r_ALLOW, rv xr, rv a142, rv a191, iv (1 : Int32), iv (1 : Int32), .unset] [(.int (1 : Int32))]))) (fun t_ kont => XS.goto X240.here hx rfl (pc0 := 144) (pc' := 148) rfl (hb hby at_144) (by decide) (by decide) kont) ?_
        refine own_bk (S' := (T236.setTop (mkF m 150 #[iv v0, iv v1, iv v2, iv v3, iv v4, iv (0 : Int32), iv ri, rv r_ALLOW, rv xr, rv a142, rv a191, iv (1 : Int32), iv (1 : Int32), iv (1 : Int32)] []))) (fun t_ kont => XS.istore X240.here hx rfl (hb hby at_148) rfl (l' := #[iv v0, iv v1, iv v2, iv v3, iv v4, iv (0 : Int32), iv ri, rv r_ALLOW, rv xr, rv a142, rv a191, iv (1 : Int32), iv (1 : Int32), iv (1 : Int32)]) rfl kont) ?_
        refine own_bk (S' := (T236.setTop (mkF m 152 #[iv v0, iv v1, iv v2, iv v3, iv v4, iv (0 : Int32), iv ri, rv r_ALLOW, rv xr, rv a142, rv a191, iv (1 : Int32), iv (1 : Int32), iv (1 : Int32)] [(.int (1 : Int32))]))) (fun t_ kont => XS.iload X240.here hx rfl (hb hby at_150) rfl kont) ?_
        refine own_bk (S' := (T236.setTop (mkF m 154 #[iv v0, iv v1, iv v2, iv v3, iv v4, iv (0 : Int32), iv ri, rv r_ALLOW, rv xr, rv a142, rv a191, iv (1 : Int32), iv (1 : Int32), iv (1 : Int32)] [(.int (1 : Int32)), (.int (1 : Int32))]))) (fun t_ kont => XS.iload X240.here hx rfl (hb hby at_152) rfl kont) ?_
        refine own_bk (S' := (T236.setTop (mkF m 157 #[iv v0, iv v1, iv v2, iv v3, iv v4, iv (0 : Int32), iv ri, rv r_ALLOW, rv xr, rv a142, rv a191, iv (1 : Int32), iv (1 : Int32), iv (1 : Int32)] []))) (fun t_ kont => XS.icmpNo X240.here hx rfl (hb hby at_154) rfl (teq (by decide : ((1 : Int32)) = ((1 : Int32)))).2 kont) ?_
        refine own_bk (S' := (T236.setTop (mkF m 159 #[iv v0, iv v1, iv v2, iv v3, iv v4, iv (0 : Int32), iv ri, rv r_ALLOW, rv xr, rv a142, rv a191, iv (1 : Int32), iv (1 : Int32), iv (1 : Int32)] [(.int (1 : Int32))]))) (fun t_ kont => XS.iload X240.here hx rfl (hb hby at_157) rfl kont) ?_
        refine own_bk (S' := (T236.setTop (mkF m 161 #[iv v0, iv v1, iv v2, iv v3, iv v4, iv (0 : Int32), iv ri, rv r_ALLOW, rv xr, rv a142, rv a191, iv (1 : Int32), iv (1 : Int32), iv (1 : Int32)] [(.int (1 : Int32)), (.int (1 : Int32))]))) (fun t_ kont => XS.iload X240.here hx rfl (hb hby at_159) rfl kont) ?_
        refine own_bk (S' := (T236.setTop (mkF m 164 #[iv v0, iv v1, iv v2, iv v3, iv v4, iv (0 : Int32), iv ri, rv r_ALLOW, rv xr, rv a142, rv a191, iv (1 : Int32), iv (1 : Int32), iv (1 : Int32)] []))) (fun t_ kont => XS.icmpNo X240.here hx rfl (hb hby at_161) rfl (teq (by decide : ((1 : Int32)) = ((1 : Int32)))).2 kont) ?_
        refine own_bk (S' := (T236.setTop (mkF m 165 #[iv v0, iv v1, iv v2, iv v3, iv v4, iv (0 : Int32), iv ri, rv r_ALLOW, rv xr, rv a142, rv a191, iv (1 : Int32), iv (1 : Int32), iv (1 : Int32)] [(.int (1 : Int32))]))) (fun t_ kont => XS.iconst X240.here hx rfl (hb hby at_164) kont) ?_
        refine own_bk (S' := (T236.setTop (mkF m 169 #[iv v0, iv v1, iv v2, iv v3, iv v4, iv (0 : Int32), iv ri, rv r_ALLOW, rv xr, rv a142, rv a191, iv (1 : Int32), iv (1 : Int32), iv (1 : Int32)] [(.int (1 : Int32))]))) (fun t_ kont => XS.goto X240.here hx rfl (pc0 := 165) (pc' := 169) rfl (hb hby at_165) (by decide) (by decide) kont) ?_
        exact own_retNW hS X240 (by rw [show T236.heap = T203.heap from e249]; exact (Nat.le_refl _)) hx hlk (t := .boolean) (w := (1 : Int32)) Bd.returns (by simp) (hb hby at_169) rfl ⟨rfl, N250⟩ (by decide) (by decide)
      · refine own_bk (S' := (T16.setTop (mkF m 43 #[iv v0, iv v1, iv v2, iv v3, iv v4, iv (0 : Int32), iv ri, rv r_ALLOW, rv xr, .val .null, .unset, .unset, .unset, .unset] []))) (fun t_ kont => XS.ifNo X20.here hx rfl (hb hby at_40) rfl ((if0 _ _).trans (feq (hc99)).1) kont) ?_
        refine own_bk (S' := (T16.setTop (mkF m 44 #[iv v0, iv v1, iv v2, iv v3, iv v4, iv (0 : Int32), iv ri, rv r_ALLOW, rv xr, .val .null, .unset, .unset, .unset, .unset] [(.int (2 : Int32))]))) (fun t_ kont => XS.iconst X20.here hx rfl (hb hby at_43) kont) ?_
        obtain ⟨T251, h252, k253, X254, e255, E256, A257, st258⟩ := newP X20 hx hZ (hw _ (List.mem_of_getElem? (i := 59) rfl)) e28 (g := (mkF m 44 #[iv v0, iv v1, iv v2, iv v3, iv v4, iv (0 : Int32), iv ri, rv r_ALLOW, rv xr, .val .null, .unset, .unset, .unset, .unset] [(.int (2 : Int32))])) rfl (hb hby at_44) rfl (by decide : ¬ ((2 : Int32) < (0 : Int32))) (cap := 2) (by decide : (2 : Int32).toNatClampNeg ≤ 2) (by decide) (by decide) (by decide)
        obtain ⟨a259, g260⟩ : ∃ z, z = h0.size := ⟨_, rfl⟩
        rw [← g260] at A257 st258
        have ag262 : n0 ≤ a259 := Nat.le_trans Z0 (Nat.le_of_eq g260.symm)
        have Z263 := Nat.le_trans Z0 E256.1
        have hk264 := Nat.le_trans hk0 E256.1
        have O265 := O.ext E256
        have V261 : Arv Z h252 a259 k253 .char (2 : Int32) [] (.int (0 : Int32)) := (Arv.new A257 (by decide : ¬ ((2 : Int32) < (0 : Int32))))
        have V266 : Arv Z h252 a259 k253 .char (2 : Int32) [(.int (0 : Int32)), (.int (0 : Int32))] (.int (0 : Int32)) := (V261.pad (pad_rep [] (.int (0 : Int32)) 2))
        refine own_bk (S' := (T251.setTop (mkF m 46 #[iv v0, iv v1, iv v2, iv v3, iv v4, iv (0 : Int32), iv ri, rv r_ALLOW, rv xr, .val .null, .unset, .unset, .unset, .unset] [(.ref a259)]))) st258 ?_
        refine own_bk (S' := (T251.setTop (mkF m 48 #[iv v0, iv v1, iv v2, iv v3, iv v4, iv (0 : Int32), iv ri, rv r_ALLOW, rv xr, .val .null, rv a259, .unset, .unset, .unset] []))) (fun t_ kont => XS.astore X254.here hx rfl (hb hby at_46) rfl rfl (l' := #[iv v0, iv v1, iv v2, iv v3, iv v4, iv (0 : Int32), iv ri, rv r_ALLOW, rv xr, .val .null, rv a259, .unset, .unset, .unset]) rfl kont) ?_
        refine own_bk (S' := (T251.setTop (mkF m 50 #[iv v0, iv v1, iv v2, iv v3, iv v4, iv (0 : Int32), iv ri, rv r_ALLOW, rv xr, .val .null, rv a259, .unset, .unset, .unset] [(.ref a259)]))) (fun t_ kont => XS.aload X254.here hx rfl (hb hby at_48) rfl rfl kont) ?_
        refine own_bk (S' := (T251.setTop (mkF m 51 #[iv v0, iv v1, iv v2, iv v3, iv v4, iv (0 : Int32), iv ri, rv r_ALLOW, rv xr, .val .null, rv a259, .unset, .unset, .unset] [(.int (0 : Int32)), (.ref a259)]))) (fun t_ kont => XS.iconst X254.here hx rfl (hb hby at_50) kont) ?_
        refine own_bk (S' := (T251.setTop (mkF m 52 #[iv v0, iv v1, iv v2, iv v3, iv v4, iv (0 : Int32), iv ri, rv r_ALLOW, rv xr, .val .null, rv a259, .unset, .unset, .unset] [(.int v3), (.int (0 : Int32)), (.ref a259)]))) (fun t_ kont => XS.iloadN X254.here hx rfl (hb hby at_51) rfl kont) ?_
        refine own_bk (S' := (T251.setTop (mkF m 55 #[iv v0, iv v1, iv v2, iv v3, iv v4, iv (0 : Int32), iv ri, rv r_ALLOW, rv xr, .val .null, rv a259, .unset, .unset, .unset] [(.int (255 : Int32)), (.int v3), (.int (0 : Int32)), (.ref a259)]))) (fun t_ kont => XS.sipush X254.here hx rfl (hb hby at_52) kont) ?_
        refine own_bk (S' := (T251.setTop (mkF m 56 #[iv v0, iv v1, iv v2, iv v3, iv v4, iv (0 : Int32), iv ri, rv r_ALLOW, rv xr, .val .null, rv a259, .unset, .unset, .unset] [(.int (v3 &&& (255 : Int32))), (.int (0 : Int32)), (.ref a259)]))) (fun t_ kont => XS.iand X254.here hx rfl (hb hby at_55) rfl kont) ?_
        refine own_bk (S' := (T251.setTop (mkF m 57 #[iv v0, iv v1, iv v2, iv v3, iv v4, iv (0 : Int32), iv ri, rv r_ALLOW, rv xr, .val .null, rv a259, .unset, .unset, .unset] [(.int ((v3 &&& (255 : Int32)).toUInt32.toUInt16.toUInt32.toInt32)), (.int (0 : Int32)), (.ref a259)]))) (fun t_ kont => XS.i2c X254.here hx rfl (hb hby at_56) rfl kont) ?_
        obtain ⟨c267, A268, q269, S270, M271, H272, U273⟩ := id V266
        obtain ⟨T274, h275, X276, e277, W278, st279⟩ := stC X254 hx hZ e255 A268 (j := (0 : Int32)) (inb_of S270 ⟨(by decide : ¬ ((0 : Int32) < (0 : Int32))), (by decide : (0 : Int32) < (2 : Int32))⟩) (g := (mkF m 57 #[iv v0, iv v1, iv v2, iv v3, iv v4, iv (0 : Int32), iv ri, rv r_ALLOW, rv xr, .val .null, rv a259, .unset, .unset, .unset] [(.int ((v3 &&& (255 : Int32)).toUInt32.toUInt16.toUInt32.toInt32)), (.int (0 : Int32)), (.ref a259)])) rfl rfl (hb hby at_57)
        have N280 := Fr.snoc X276 N29 ag262
        have Z281 := Nat.le_trans Z263 (Keep.of_wr W278).1
        have hk282 := Nat.le_trans hk264 (Keep.of_wr W278).1
        have O283 := O265.wr W278 ag262
        have V284 : Arv Z h275 a259 k253 .char (2 : Int32) [(.int (nar .char ((v3 &&& (255 : Int32)).toUInt32.toUInt16.toUInt32.toInt32))), (.int (0 : Int32))] (.int (0 : Int32)) := (Arv.set A268 q269 S270 M271 H272 U273 (fits_nar_char _) W278 0 rfl (Nat.le_of_ble_eq_true rfl))
        refine own_bk (S' := (T274.setTop (mkF m 58 #[iv v0, iv v1, iv v2, iv v3, iv v4, iv (0 : Int32), iv ri, rv r_ALLOW, rv xr, .val .null, rv a259, .unset, .unset, .unset] []))) st279 ?_
        refine own_bk (S' := (T274.setTop (mkF m 60 #[iv v0, iv v1, iv v2, iv v3, iv v4, iv (0 : Int32), iv ri, rv r_ALLOW, rv xr, .val .null, rv a259, .unset, .unset, .unset] [(.ref a259)]))) (fun t_ kont => XS.aload X276.here hx rfl (hb hby at_58) rfl rfl kont) ?_
        refine own_bk (S' := (T274.setTop (mkF m 61 #[iv v0, iv v1, iv v2, iv v3, iv v4, iv (0 : Int32), iv ri, rv r_ALLOW, rv xr, .val .null, rv a259, .unset, .unset, .unset] [(.int (1 : Int32)), (.ref a259)]))) (fun t_ kont => XS.iconst X276.here hx rfl (hb hby at_60) kont) ?_
        refine own_bk (S' := (T274.setTop (mkF m 63 #[iv v0, iv v1, iv v2, iv v3, iv v4, iv (0 : Int32), iv ri, rv r_ALLOW, rv xr, .val .null, rv a259, .unset, .unset, .unset] [(.int v4), (.int (1 : Int32)), (.ref a259)]))) (fun t_ kont => XS.iload X276.here hx rfl (hb hby at_61) rfl kont) ?_
        refine own_bk (S' := (T274.setTop (mkF m 66 #[iv v0, iv v1, iv v2, iv v3, iv v4, iv (0 : Int32), iv ri, rv r_ALLOW, rv xr, .val .null, rv a259, .unset, .unset, .unset] [(.int (255 : Int32)), (.int v4), (.int (1 : Int32)), (.ref a259)]))) (fun t_ kont => XS.sipush X276.here hx rfl (hb hby at_63) kont) ?_
        refine own_bk (S' := (T274.setTop (mkF m 67 #[iv v0, iv v1, iv v2, iv v3, iv v4, iv (0 : Int32), iv ri, rv r_ALLOW, rv xr, .val .null, rv a259, .unset, .unset, .unset] [(.int (v4 &&& (255 : Int32))), (.int (1 : Int32)), (.ref a259)]))) (fun t_ kont => XS.iand X276.here hx rfl (hb hby at_66) rfl kont) ?_
        refine own_bk (S' := (T274.setTop (mkF m 68 #[iv v0, iv v1, iv v2, iv v3, iv v4, iv (0 : Int32), iv ri, rv r_ALLOW, rv xr, .val .null, rv a259, .unset, .unset, .unset] [(.int ((v4 &&& (255 : Int32)).toUInt32.toUInt16.toUInt32.toInt32)), (.int (1 : Int32)), (.ref a259)]))) (fun t_ kont => XS.i2c X276.here hx rfl (hb hby at_67) rfl kont) ?_
        obtain ⟨c285, A286, q287, S288, M289, H290, U291⟩ := id V284
        obtain ⟨T292, h293, X294, e295, W296, st297⟩ := stC X276 hx hZ e277 A286 (j := (1 : Int32)) (inb_of S288 ⟨(by decide : ¬ ((1 : Int32) < (0 : Int32))), (by decide : (1 : Int32) < (2 : Int32))⟩) (g := (mkF m 68 #[iv v0, iv v1, iv v2, iv v3, iv v4, iv (0 : Int32), iv ri, rv r_ALLOW, rv xr, .val .null, rv a259, .unset, .unset, .unset] [(.int ((v4 &&& (255 : Int32)).toUInt32.toUInt16.toUInt32.toInt32)), (.int (1 : Int32)), (.ref a259)])) rfl rfl (hb hby at_68)
        have N298 := Fr.snoc X294 N280 ag262
        have Z299 := Nat.le_trans Z281 (Keep.of_wr W296).1
        have hk300 := Nat.le_trans hk282 (Keep.of_wr W296).1
        have O301 := O283.wr W296 ag262
        have V302 : Arv Z h293 a259 k253 .char (2 : Int32) [(.int (nar .char ((v3 &&& (255 : Int32)).toUInt32.toUInt16.toUInt32.toInt32))), (.int (nar .char ((v4 &&& (255 : Int32)).toUInt32.toUInt16.toUInt32.toInt32)))] (.int (0 : Int32)) := (Arv.set A286 q287 S288 M289 H290 U291 (fits_nar_char _) W296 1 rfl (Nat.le_of_ble_eq_true rfl))
        refine own_bk (S' := (T292.setTop (mkF m 69 #[iv v0, iv v1, iv v2, iv v3, iv v4, iv (0 : Int32), iv ri, rv r_ALLOW, rv xr, .val .null, rv a259, .unset, .unset, .unset] []))) st297 ?_
        obtain ⟨T303, h304, X305, e306, E307, A308, D309, -, st310⟩ := newO X294 hx hZ hown (hw _ (List.mem_of_getElem? (i := 60) rfl)) (hw _ (List.mem_of_getElem? (i := 30) rfl)) (hw _ (List.mem_of_getElem? (i := 29) rfl)) e295 (g := (mkF m 69 #[iv v0, iv v1, iv v2, iv v3, iv v4, iv (0 : Int32), iv ri, rv r_ALLOW, rv xr, .val .null, rv a259, .unset, .unset, .unset] [])) rfl (hb hby at_69) (by decide) (by decide)
        obtain ⟨a311, g312⟩ : ∃ z, z = h293.size := ⟨_, rfl⟩
        rw [← g312] at A308 D309 st310
        have ne313 : a259 ≠ a311 := Nat.ne_of_lt (Nat.lt_of_lt_of_le V302.lt (Nat.le_of_eq g312.symm))
        have ag314 : n0 ≤ a311 := Nat.le_trans Z299 (Nat.le_of_eq g312.symm)
        have V315 := (V302.ext E307)
        have Z316 := Nat.le_trans Z299 E307.1
        have hk317 := Nat.le_trans hk300 E307.1
        have O318 := O301.ext E307
        have F319 : Fld Z h304 a311 "java/lang/String" "value" "[B" .null := (D309 (Or.inr (hw _ (List.mem_of_getElem? (i := 32) rfl))) (ty := (.array .byte)) (by decide +kernel))
        have F320 : Fld Z h304 a311 "java/lang/String" "coder" "B" (.int (0 : Int32)) := (D309 (Or.inr (hw _ (List.mem_of_getElem? (i := 33) rfl))) (ty := .byte) (by decide +kernel))
        refine own_bk (S' := (T303.setTop (mkF m 72 #[iv v0, iv v1, iv v2, iv v3, iv v4, iv (0 : Int32), iv ri, rv r_ALLOW, rv xr, .val .null, rv a259, .unset, .unset, .unset] [(.ref a311)]))) st310 ?_
        refine own_bk (S' := (T303.setTop (mkF m 73 #[iv v0, iv v1, iv v2, iv v3, iv v4, iv (0 : Int32), iv ri, rv r_ALLOW, rv xr, .val .null, rv a259, .unset, .unset, .unset] [(.ref a311), (.ref a311)]))) (fun t_ kont => XS.dup X305.here hx rfl (hb hby at_72) rfl rfl kont) ?_
        refine own_bk (S' := (T303.setTop (mkF m 75 #[iv v0, iv v1, iv v2, iv v3, iv v4, iv (0 : Int32), iv ri, rv r_ALLOW, rv xr, .val .null, rv a259, .unset, .unset, .unset] [(.ref a259), (.ref a311), (.ref a311)]))) (fun t_ kont => XS.aload X305.here hx rfl (hb hby at_73) rfl rfl kont) ?_
        have hp321 : ∀ c ∈ ([(nar .char ((v3 &&& (255 : Int32)).toUInt32.toUInt16.toUInt32.toInt32)), (nar .char ((v4 &&& (255 : Int32)).toUInt32.toUInt16.toUInt32.toInt32))] : List Int32), ¬ c < 0 ∧ ¬ (255 : Int32) < c := by
          intro c hc; simp only [List.mem_cons, List.not_mem_nil, or_false] at hc; rcases hc with rfl | rfl
          · exact own_n255 v3
          · exact own_n255 v4
        have hws322 : ∀ d ∈ StrChars.Road.words, d.before a0 Z = true := fun d hd => hw d ((by decide +kernel : ∀ d ∈ StrChars.Road.words, d ∈ tables_1) d hd)
        obtain ⟨_, _, ⟨T333, L334, k335, n336⟩, -, X337, ⟨Lc338, hQ339, l340, y341, z342⟩, st343⟩ := X305.specialBack hx (y := (⟨"java/lang/String", "<init>", "([C)V"⟩ : MethodName)) rfl hown (mvT hZ (hw _ (List.mem_of_getElem? (i := 61) rfl))) (mvT hZ (hw _ (List.mem_of_getElem? (i := 62) rfl))) (mvT hZ (hw _ (List.mem_of_getElem? (i := 63) rfl))) (by decide) (StrChars.Road.backV (W := 1) hZ hws322 (kI := 4) (hw _ (List.mem_of_getElem? (i := 30) rfl)) (cs := ([(nar .char ((v3 &&& (255 : Int32)).toUInt32.toUInt16.toUInt32.toInt32)), (nar .char ((v4 &&& (255 : Int32)).toUInt32.toUInt16.toUInt32.toInt32))] : List Int32)) (bs := (([(nar .char ((v3 &&& (255 : Int32)).toUInt32.toUInt16.toUInt32.toInt32)), (nar .char ((v4 &&& (255 : Int32)).toUInt32.toUInt16.toUInt32.toInt32))] : List Int32)).map (fun c => c.toInt8.toInt32)) (n := 2) ag314 Z316 A308 F319 F320 V315 (SC.ext O318.2) hcz rfl rfl (by decide) (by decide) hp321 rfl (by decide) (by decide)) (g := (mkF m 75 #[iv v0, iv v1, iv v2, iv v3, iv v4, iv (0 : Int32), iv ri, rv r_ALLOW, rv xr, .val .null, rv a259, .unset, .unset, .unset] [(.ref a259), (.ref a311), (.ref a311)])) rfl (by rw [hml]; rfl) (Steps.refl _) (a := a311) (argsL := [(.ref a259)]) (rest := [(.ref a311)]) (lenOf (by decide +kernel : parseMethodDescriptor "([C)V" = some ⟨[(.array .char)], none⟩) rfl) rfl (by show 2 * 0 + _ ≤ _; exact Nat.le_of_eq rfl) (hb hby at_75) (fun _ _ => ⟨rfl, e306, (by decide : 2 + 1 ≤ _), (by decide : 6 + 2 ≤ _)⟩)
        dsimp only [Pt.U, Pt.locs, Pt.cells, Pt.slots] at X337 l340 y341 z342 st343 hQ339
        subst l340 y341 z342
        obtain ⟨rfl, N344, K323, g331, g326, t324, kb325, u328, u329, u330, g327, V332⟩ := hQ339
        have N346 := Fr.app N298 N344
        have V347 := (V315.keep K323 (ninS ne313 nin0))
        have E348 := (A308.keep K323)
        have Z349 := Nat.le_trans Z316 K323.1
        have hk350 := Nat.le_trans hk317 K323.1
        have O351 := O318.keep K323 (allS ag314 all0)
        refine own_tr (S' := (T333.setTop (mkF m 78 #[iv v0, iv v1, iv v2, iv v3, iv v4, iv (0 : Int32), iv ri, rv r_ALLOW, rv xr, .val .null, rv a259, .unset, .unset, .unset] [(.ref a311)]))) st343 ?_
        refine own_bk (S' := (T333.setTop (mkF m 80 #[iv v0, iv v1, iv v2, iv v3, iv v4, iv (0 : Int32), iv ri, rv r_ALLOW, rv xr, rv a311, rv a259, .unset, .unset, .unset] []))) (fun t_ kont => XS.astore X337.here hx rfl (hb hby at_78) rfl rfl (l' := #[iv v0, iv v1, iv v2, iv v3, iv v4, iv (0 : Int32), iv ri, rv r_ALLOW, rv xr, rv a311, rv a259, .unset, .unset, .unset]) rfl kont) ?_
        refine own_bk (S' := (T333.setTop (mkF m 109 #[iv v0, iv v1, iv v2, iv v3, iv v4, iv (0 : Int32), iv ri, rv r_ALLOW, rv xr, rv a311, rv a259, .unset, .unset, .unset] []))) (fun t_ kont => XS.goto X337.here hx rfl (pc0 := 80) (pc' := 109) rfl (hb hby at_80) (by decide) (by decide) kont) ?_
        obtain ⟨T352, h353, X354, e355, E356, A357, D358, -, st359⟩ := newO X337 hx hZ hown (hw _ (List.mem_of_getElem? (i := 14) rfl)) (hw _ (List.mem_of_getElem? (i := 15) rfl)) (hw _ (List.mem_of_getElem? (i := 16) rfl)) rfl (g := (mkF m 109 #[iv v0, iv v1, iv v2, iv v3, iv v4, iv (0 : Int32), iv ri, rv r_ALLOW, rv xr, rv a311, rv a259, .unset, .unset, .unset] [])) rfl (hb hby at_109) (by decide) (by decide)
        obtain ⟨a360, g361⟩ : ∃ z, z = T333.heap.size := ⟨_, rfl⟩
        rw [← g361] at A357 D358 st359
        have ag362 : n0 ≤ a360 := Nat.le_trans Z349 (Nat.le_of_eq g361.symm)
        have Z363 := Nat.le_trans Z349 E356.1
        have hk364 := Nat.le_trans hk350 E356.1
        have O365 := O351.ext E356
        have F366 : Fld Z h353 a360 "com/example/portcullis/portcullis/policy/WebDecision" "pattern" "Ljava/lang/String;" .null := (D358 (Or.inr (hw _ (List.mem_of_getElem? (i := 42) rfl))) (ty := (.object "java/lang/String")) (by decide +kernel))
        have F367 : Fld Z h353 a360 "com/example/portcullis/portcullis/policy/WebDecision" "outcome" "Lcom/example/portcullis/portcullis/policy/WebDecision$Outcome;" .null := (D358 (Or.inr (hw _ (List.mem_of_getElem? (i := 44) rfl))) (ty := (.object "com/example/portcullis/portcullis/policy/WebDecision$Outcome")) (by decide +kernel))
        have F368 : Fld Z h353 a360 "com/example/portcullis/portcullis/policy/WebDecision" "reason" "Lcom/example/portcullis/portcullis/policy/WebDecision$Reason;" .null := (D358 (Or.inr (hw _ (List.mem_of_getElem? (i := 46) rfl))) (ty := (.object "com/example/portcullis/portcullis/policy/WebDecision$Reason")) (by decide +kernel))
        refine own_bk (S' := (T352.setTop (mkF m 112 #[iv v0, iv v1, iv v2, iv v3, iv v4, iv (0 : Int32), iv ri, rv r_ALLOW, rv xr, rv a311, rv a259, .unset, .unset, .unset] [(.ref a360)]))) st359 ?_
        refine own_bk (S' := (T352.setTop (mkF m 113 #[iv v0, iv v1, iv v2, iv v3, iv v4, iv (0 : Int32), iv ri, rv r_ALLOW, rv xr, rv a311, rv a259, .unset, .unset, .unset] [(.ref a360), (.ref a360)]))) (fun t_ kont => XS.dup X354.here hx rfl (hb hby at_112) rfl rfl kont) ?_
        refine own_bk (S' := (T352.setTop (mkF m 115 #[iv v0, iv v1, iv v2, iv v3, iv v4, iv (0 : Int32), iv ri, rv r_ALLOW, rv xr, rv a311, rv a259, .unset, .unset, .unset] [(.ref a311), (.ref a360), (.ref a360)]))) (fun t_ kont => XS.aload X354.here hx rfl (hb hby at_113) rfl rfl kont) ?_
        refine own_bk (S' := (T352.setTop (mkF m 117 #[iv v0, iv v1, iv v2, iv v3, iv v4, iv (0 : Int32), iv ri, rv r_ALLOW, rv xr, rv a311, rv a259, .unset, .unset, .unset] [(.ref r_ALLOW), (.ref a311), (.ref a360), (.ref a360)]))) (fun t_ kont => XS.aload X354.here hx rfl (hb hby at_115) rfl rfl kont) ?_
        refine own_bk (S' := (T352.setTop (mkF m 119 #[iv v0, iv v1, iv v2, iv v3, iv v4, iv (0 : Int32), iv ri, rv r_ALLOW, rv xr, rv a311, rv a259, .unset, .unset, .unset] [(.ref xr), (.ref r_ALLOW), (.ref a311), (.ref a360), (.ref a360)]))) (fun t_ kont => XS.aload X354.here hx rfl (hb hby at_117) rfl rfl kont) ?_
        obtain ⟨_, _, ⟨T372, L373, k374, n375⟩, -, X376, hS2_, hgr_, ⟨Lc377, hQ378, l379, y380, z381⟩, st382⟩ := X354.specialBackS hx (y := (⟨"com/example/portcullis/portcullis/policy/WebDecision", "<init>", "(Ljava/lang/String;Lcom/example/portcullis/portcullis/policy/WebDecision$Outcome;Lcom/example/portcullis/portcullis/policy/WebDecision$Reason;)V"⟩ : MethodName)) rfl hown (mvT hZ (hw _ (List.mem_of_getElem? (i := 17) rfl))) (mvT hZ (hw _ (List.mem_of_getElem? (i := 18) rfl))) (mvT hZ (hw _ (List.mem_of_getElem? (i := 19) rfl))) (by decide) (backOfS (W := 1) (rm3R l Z a0 hw [] a360 a311 r_ALLOW xr h353 n0 Z363 O365 A357 ag362 F366 F367 F368) hZ (hw _ (List.mem_of_getElem? (i := 19) rfl)) (hw _ (List.mem_of_getElem? (i := 16) rfl)) (by decide) (by decide)) (g := (mkF m 119 #[iv v0, iv v1, iv v2, iv v3, iv v4, iv (0 : Int32), iv ri, rv r_ALLOW, rv xr, rv a311, rv a259, .unset, .unset, .unset] [(.ref xr), (.ref r_ALLOW), (.ref a311), (.ref a360), (.ref a360)])) rfl (by rw [hml]; rfl) (Steps.refl _) (a := a360) (argsL := [(.ref a311), (.ref r_ALLOW), (.ref xr)]) (rest := [(.ref a360)]) (lenOf (by decide +kernel : parseMethodDescriptor "(Ljava/lang/String;Lcom/example/portcullis/portcullis/policy/WebDecision$Outcome;Lcom/example/portcullis/portcullis/policy/WebDecision$Reason;)V" = some ⟨[(.object "java/lang/String"), (.object "com/example/portcullis/portcullis/policy/WebDecision$Outcome"), (.object "com/example/portcullis/portcullis/policy/WebDecision$Reason")], none⟩) rfl) rfl (by show 2 * 0 + _ ≤ _; exact Nat.le_of_eq rfl) (hb hby at_119) (fun _ _ => ⟨rfl, e355, (by decide : 4 + 4 ≤ _), (by decide : 11 + 60 ≤ _)⟩)
        dsimp only [Pt.U, Pt.locs, Pt.cells, Pt.slots] at X376 l379 y380 z381 st382 hQ378 hS2_ hgr_
        subst l379 y380 z381
        obtain ⟨X383, hS, hZ, hown⟩ := rebS hS (by rw [show T352.heap = h353 from e355]; exact hk364) X376 hS2_ hgr_ hZ hown
        obtain ⟨rfl, N384, O371, K369, g370⟩ := hQ378
        have N386 := Fr.app N346 N384
        have E387 := (A357.keep K369)
        have Z388 := Nat.le_trans Z363 K369.1
        have O389 := O365.keep K369 (allS ag362 all0)
        refine own_tr (S' := (T372.setTop (mkF m 122 #[iv v0, iv v1, iv v2, iv v3, iv v4, iv (0 : Int32), iv ri, rv r_ALLOW, rv xr, rv a311, rv a259, .unset, .unset, .unset] [(.ref a360)]))) st382 ?_
        refine own_bk (S' := (T372.setTop (mkF m 124 #[iv v0, iv v1, iv v2, iv v3, iv v4, iv (0 : Int32), iv ri, rv r_ALLOW, rv xr, rv a311, rv a360, .unset, .unset, .unset] []))) (fun t_ kont => XS.astore X383.here hx rfl (hb hby at_122) rfl rfl (l' := #[iv v0, iv v1, iv v2, iv v3, iv v4, iv (0 : Int32), iv ri, rv r_ALLOW, rv xr, rv a311, rv a360, .unset, .unset, .unset]) rfl kont) ?_
        refine own_bk (S' := (T372.setTop (mkF m 126 #[iv v0, iv v1, iv v2, iv v3, iv v4, iv (0 : Int32), iv ri, rv r_ALLOW, rv xr, rv a311, rv a360, .unset, .unset, .unset] [(.ref a360)]))) (fun t_ kont => XS.aload X383.here hx rfl (hb hby at_124) rfl rfl kont) ?_
        obtain ⟨cqq401, kqq401, q401a, q401b, q401c⟩ := isOf hZ rfl E387
        obtain ⟨_, _, ⟨T390, L391, k392, n393⟩, -, X394, ⟨Lc395, hQ396, l397, y398, z399⟩, st400⟩ := X383.virtualBack hx (y := (⟨"com/example/portcullis/portcullis/policy/WebDecision", "allowed", "()Z"⟩ : MethodName)) (z := (⟨"com/example/portcullis/portcullis/policy/WebDecision", "allowed", "()Z"⟩ : MethodName)) hown (mvT hZ (hw _ (List.mem_of_getElem? (i := 47) rfl))) (mvT hZ (hw _ (List.mem_of_getElem? (i := 48) rfl))) (notFace_of_selects (args := #[]) (mvT hZ (hw _ (List.mem_of_getElem? (i := 50) rfl)))) (mvT hZ (hw _ (List.mem_of_getElem? (i := 50) rfl))) (mvT hZ (hw _ (List.mem_of_getElem? (i := 49) rfl))) (by decide) (backOf (W := 0) (rm7 l Z a0 hw [] a360 r_ALLOW r_ALLOW (1 : Int32) T372.heap n0 Z388 g370 (G_ALLOW.1.ext O371.2) (by simp)) hZ (hw _ (List.mem_of_getElem? (i := 51) rfl)) (hw _ (List.mem_of_getElem? (i := 16) rfl)) (by decide) (by decide)) q401a q401c (g := (mkF m 126 #[iv v0, iv v1, iv v2, iv v3, iv v4, iv (0 : Int32), iv ri, rv r_ALLOW, rv xr, rv a311, rv a360, .unset, .unset, .unset] [(.ref a360)])) rfl (by rw [hml]; rfl) (Steps.refl _) (argsL := []) (rest := []) (lenOf (by decide +kernel : parseMethodDescriptor "()Z" = some ⟨[], some .boolean⟩) rfl) rfl (by show 2 * 0 + _ ≤ _; exact Nat.le_of_eq rfl) (hb hby at_126) (fun _ _ => ⟨rfl, rfl, (by decide : 8 + 0 ≤ _), (by decide : 71 + 0 ≤ _)⟩)
        dsimp only [Pt.U, Pt.locs, Pt.cells, Pt.slots] at X394 l397 y398 z399 st400 hQ396
        subst l397 y398 z399
        obtain ⟨rfl, N402, e403⟩ := hQ396
        have N404 := Fr.app N386 N402
        refine own_tr (S' := (T390.setTop (mkF m 129 #[iv v0, iv v1, iv v2, iv v3, iv v4, iv (0 : Int32), iv ri, rv r_ALLOW, rv xr, rv a311, rv a360, .unset, .unset, .unset] [(.int (1 : Int32))]))) st400 ?_
        refine own_bk (S' := (T390.setTop (mkF m 131 #[iv v0, iv v1, iv v2, iv v3, iv v4, iv (0 : Int32), iv ri, rv r_ALLOW, rv xr, rv a311, rv a360, iv (1 : Int32), .unset, .unset] []))) (fun t_ kont => XS.istore X394.here hx rfl (hb hby at_129) rfl (l' := #[iv v0, iv v1, iv v2, iv v3, iv v4, iv (0 : Int32), iv ri, rv r_ALLOW, rv xr, rv a311, rv a360, iv (1 : Int32), .unset, .unset]) rfl kont) ?_
        refine own_bk (S' := (T390.setTop (mkF m 133 #[iv v0, iv v1, iv v2, iv v3, iv v4, iv (0 : Int32), iv ri, rv r_ALLOW, rv xr, rv a311, rv a360, iv (1 : Int32), .unset, .unset] [(.ref a360)]))) (fun t_ kont => XS.aload X394.here hx rfl (hb hby at_131) rfl rfl kont) ?_
        obtain ⟨cqq416, kqq416, q416a, q416b, q416c⟩ := isOf hZ e403 E387
        obtain ⟨_, _, ⟨T405, L406, k407, n408⟩, -, X409, ⟨Lc410, hQ411, l412, y413, z414⟩, st415⟩ := X394.virtualBack hx (y := (⟨"com/example/portcullis/portcullis/policy/WebDecision", "allowed", "()Z"⟩ : MethodName)) (z := (⟨"com/example/portcullis/portcullis/policy/WebDecision", "allowed", "()Z"⟩ : MethodName)) hown (mvT hZ (hw _ (List.mem_of_getElem? (i := 47) rfl))) (mvT hZ (hw _ (List.mem_of_getElem? (i := 48) rfl))) (notFace_of_selects (args := #[]) (mvT hZ (hw _ (List.mem_of_getElem? (i := 50) rfl)))) (mvT hZ (hw _ (List.mem_of_getElem? (i := 50) rfl))) (mvT hZ (hw _ (List.mem_of_getElem? (i := 49) rfl))) (by decide) (backOf (W := 0) (rm7 l Z a0 hw [] a360 r_ALLOW r_ALLOW (1 : Int32) T372.heap n0 Z388 g370 (G_ALLOW.1.ext O371.2) (by simp)) hZ (hw _ (List.mem_of_getElem? (i := 51) rfl)) (hw _ (List.mem_of_getElem? (i := 16) rfl)) (by decide) (by decide)) q416a q416c (g := (mkF m 133 #[iv v0, iv v1, iv v2, iv v3, iv v4, iv (0 : Int32), iv ri, rv r_ALLOW, rv xr, rv a311, rv a360, iv (1 : Int32), .unset, .unset] [(.ref a360)])) rfl (by rw [hml]; rfl) (Steps.refl _) (argsL := []) (rest := []) (lenOf (by decide +kernel : parseMethodDescriptor "()Z" = some ⟨[], some .boolean⟩) rfl) rfl (by show 2 * 0 + _ ≤ _; exact Nat.le_of_eq rfl) (hb hby at_133) (fun _ _ => ⟨rfl, e403, (by decide : 8 + 0 ≤ _), (by decide : 71 + 0 ≤ _)⟩)
        dsimp only [Pt.U, Pt.locs, Pt.cells, Pt.slots] at X409 l412 y413 z414 st415 hQ411
        subst l412 y413 z414
        obtain ⟨rfl, N417, e418⟩ := hQ411
        have N419 := Fr.app N404 N417
        refine own_tr (S' := (T405.setTop (mkF m 136 #[iv v0, iv v1, iv v2, iv v3, iv v4, iv (0 : Int32), iv ri, rv r_ALLOW, rv xr, rv a311, rv a360, iv (1 : Int32), .unset, .unset] [(.int (1 : Int32))]))) st415 ?_
        refine own_bk (S' := (T405.setTop (mkF m 138 #[iv v0, iv v1, iv v2, iv v3, iv v4, iv (0 : Int32), iv ri, rv r_ALLOW, rv xr, rv a311, rv a360, iv (1 : Int32), iv (1 : Int32), .unset] []))) (fun t_ kont => XS.istore X409.here hx rfl (hb hby at_136) rfl (l' := #[iv v0, iv v1, iv v2, iv v3, iv v4, iv (0 : Int32), iv ri, rv r_ALLOW, rv xr, rv a311, rv a360, iv (1 : Int32), iv (1 : Int32), .unset]) rfl kont) ?_
        refine own_bk (S' := (T405.setTop (mkF m 140 #[iv v0, iv v1, iv v2, iv v3, iv v4, iv (0 : Int32), iv ri, rv r_ALLOW, rv xr, rv a311, rv a360, iv (1 : Int32), iv (1 : Int32), .unset] [(.int (0 : Int32))]))) (fun t_ kont => XS.iload X409.here hx rfl (hb hby at_138) rfl kont) ?_
        refine own_bk (S' := (T405.setTop (mkF m 143 #[iv v0, iv v1, iv v2, iv v3, iv v4, iv (0 : Int32), iv ri, rv r_ALLOW, rv xr, rv a311, rv a360, iv (1 : Int32), iv (1 : Int32), .unset] []))) (fun t_ kont => XS.ifNo X409.here hx rfl (hb hby at_140) rfl ((if0 _ _).trans (teq (by decide : ((0 : Int32)) = ((0 : Int32)))).2) kont) ?_
        refine own_bk (S' := (T405.setTop (mkF m 144 #[iv v0, iv v1, iv v2, iv v3, iv v4, iv (0 : Int32), iv ri, rv r_ALLOW, rv xr, rv a311, rv a360, iv (1 : Int32), iv (1 : Int32), .unset] [(.int (1 : Int32))]))) (fun t_ kont => XS.iconst X409.here hx rfl (hb hby at_143) kont) ?_
        refine own_bk (S' := (T405.setTop (mkF m 148 #[iv v0, iv v1, iv v2, iv v3, iv v4, iv (0 : Int32), iv ri, rv r_ALLOW, rv xr, rv a311, rv a360, iv (1 : Int32), iv (1 : Int32), .unset] [(.int (1 : Int32))]))) (fun t_ kont => XS.goto X409.here hx rfl (pc0 := 144) (pc' := 148) rfl (hb hby at_144) (by decide) (by decide) kont) ?_
        refine own_bk (S' := (T405.setTop (mkF m 150 #[iv v0, iv v1, iv v2, iv v3, iv v4, iv (0 : Int32), iv ri, rv r_ALLOW, rv xr, rv a311, rv a360, iv (1 : Int32), iv (1 : Int32), iv (1 : Int32)] []))) (fun t_ kont => XS.istore X409.here hx rfl (hb hby at_148) rfl (l' := #[iv v0, iv v1, iv v2, iv v3, iv v4, iv (0 : Int32), iv ri, rv r_ALLOW, rv xr, rv a311, rv a360, iv (1 : Int32), iv (1 : Int32), iv (1 : Int32)]) rfl kont) ?_
        refine own_bk (S' := (T405.setTop (mkF m 152 #[iv v0, iv v1, iv v2, iv v3, iv v4, iv (0 : Int32), iv ri, rv r_ALLOW, rv xr, rv a311, rv a360, iv (1 : Int32), iv (1 : Int32), iv (1 : Int32)] [(.int (1 : Int32))]))) (fun t_ kont => XS.iload X409.here hx rfl (hb hby at_150) rfl kont) ?_
        refine own_bk (S' := (T405.setTop (mkF m 154 #[iv v0, iv v1, iv v2, iv v3, iv v4, iv (0 : Int32), iv ri, rv r_ALLOW, rv xr, rv a311, rv a360, iv (1 : Int32), iv (1 : Int32), iv (1 : Int32)] [(.int (1 : Int32)), (.int (1 : Int32))]))) (fun t_ kont => XS.iload X409.here hx rfl (hb hby at_152) rfl kont) ?_
        refine own_bk (S' := (T405.setTop (mkF m 157 #[iv v0, iv v1, iv v2, iv v3, iv v4, iv (0 : Int32), iv ri, rv r_ALLOW, rv xr, rv a311, rv a360, iv (1 : Int32), iv (1 : Int32), iv (1 : Int32)] []))) (fun t_ kont => XS.icmpNo X409.here hx rfl (hb hby at_154) rfl (teq (by decide : ((1 : Int32)) = ((1 : Int32)))).2 kont) ?_
        refine own_bk (S' := (T405.setTop (mkF m 159 #[iv v0, iv v1, iv v2, iv v3, iv v4, iv (0 : Int32), iv ri, rv r_ALLOW, rv xr, rv a311, rv a360, iv (1 : Int32), iv (1 : Int32), iv (1 : Int32)] [(.int (1 : Int32))]))) (fun t_ kont => XS.iload X409.here hx rfl (hb hby at_157) rfl kont) ?_
        refine own_bk (S' := (T405.setTop (mkF m 161 #[iv v0, iv v1, iv v2, iv v3, iv v4, iv (0 : Int32), iv ri, rv r_ALLOW, rv xr, rv a311, rv a360, iv (1 : Int32), iv (1 : Int32), iv (1 : Int32)] [(.int (1 : Int32)), (.int (1 : Int32))]))) (fun t_ kont => XS.iload X409.here hx rfl (hb hby at_159) rfl kont) ?_
        refine own_bk (S' := (T405.setTop (mkF m 164 #[iv v0, iv v1, iv v2, iv v3, iv v4, iv (0 : Int32), iv ri, rv r_ALLOW, rv xr, rv a311, rv a360, iv (1 : Int32), iv (1 : Int32), iv (1 : Int32)] []))) (fun t_ kont => XS.icmpNo X409.here hx rfl (hb hby at_161) rfl (teq (by decide : ((1 : Int32)) = ((1 : Int32)))).2 kont) ?_
        refine own_bk (S' := (T405.setTop (mkF m 165 #[iv v0, iv v1, iv v2, iv v3, iv v4, iv (0 : Int32), iv ri, rv r_ALLOW, rv xr, rv a311, rv a360, iv (1 : Int32), iv (1 : Int32), iv (1 : Int32)] [(.int (1 : Int32))]))) (fun t_ kont => XS.iconst X409.here hx rfl (hb hby at_164) kont) ?_
        refine own_bk (S' := (T405.setTop (mkF m 169 #[iv v0, iv v1, iv v2, iv v3, iv v4, iv (0 : Int32), iv ri, rv r_ALLOW, rv xr, rv a311, rv a360, iv (1 : Int32), iv (1 : Int32), iv (1 : Int32)] [(.int (1 : Int32))]))) (fun t_ kont => XS.goto X409.here hx rfl (pc0 := 165) (pc' := 169) rfl (hb hby at_165) (by decide) (by decide) kont) ?_
        exact own_retNW hS X409 (by rw [show T405.heap = T372.heap from e418]; exact (Nat.le_refl _)) hx hlk (t := .boolean) (w := (1 : Int32)) Bd.returns (by simp) (hb hby at_169) rfl ⟨rfl, N419⟩ (by decide) (by decide)
  · obtain ⟨xo, hxo⟩ : ∃ x, (if oi = 0 then r_ALLOW else if oi = 1 then r_DENY else if oi = 2 then r_AUTHENTICATE else r_REDIRECT) = x := ⟨_, rfl⟩
    have hne : xo ≠ r_ALLOW := by subst hxo; rw [if_neg hc1]; split; exact G_DENY.ne G_ALLOW (by decide); split; exact G_AUTHENTICATE.ne G_ALLOW (by decide); exact G_REDIRECT.ne G_ALLOW (by decide)
    refine own_bk (S' := (s₁.setTop (mkF m 16 #[iv v0, iv v1, iv v2, iv v3, iv v4, iv oi, iv ri, .unset, .unset, .unset, .unset, .unset, .unset, .unset] [(.int oi)]))) (fun t_ kont => XS.iload X0.here hx rfl (hb hby at_14) rfl kont) ?_
    obtain ⟨_, _, ⟨T420, L421, k422, n423⟩, -, X424, ⟨Lc425, hQ426, l427, y428, z429⟩, st430⟩ := Jvm.LawKit.callS X0 hx (y := (⟨"com/example/portcullis/portcullis/policy/WebDecisionAllowedPinLaw", "outcomeOf", "(I)Lcom/example/portcullis/portcullis/policy/WebDecision$Outcome;"⟩ : MethodName)) hown (mvT hZ (hw _ (List.mem_of_getElem? (i := 1) rfl))) (mvT hZ (hw _ (List.mem_of_getElem? (i := 2) rfl))) (mvT hZ (hw _ (List.mem_of_getElem? (i := 3) rfl))) (mvT hZ (hw _ (List.mem_of_getElem? (i := 4) rfl))) (by decide) (backOf (W := 0) (rm1 l Z a0 hw [] oi r_ALLOW r_DENY r_AUTHENTICATE r_REDIRECT xo h0 n0 Z0 (G_ALLOW.1.ext O.2) (G_DENY.1.ext O.2) (G_AUTHENTICATE.1.ext O.2) (G_REDIRECT.1.ext O.2) hxo) hZ (hw _ (List.mem_of_getElem? (i := 4) rfl)) (hw _ (List.mem_of_getElem? (i := 3) rfl)) (by decide) (by decide)) (g := (mkF m 16 #[iv v0, iv v1, iv v2, iv v3, iv v4, iv oi, iv ri, .unset, .unset, .unset, .unset, .unset, .unset, .unset] [(.int oi)])) rfl (by rw [hml]; rfl) (argsL := [(.int oi)]) (rest := []) (lenOf (by decide +kernel : parseMethodDescriptor "(I)Lcom/example/portcullis/portcullis/policy/WebDecision$Outcome;" = some ⟨[.int], some (.object "com/example/portcullis/portcullis/policy/WebDecision$Outcome")⟩) rfl) rfl (by show 2 * 0 + _ ≤ _; exact Nat.le_of_eq rfl) (hb hby at_16) (fun _ _ => ⟨rfl, e0, (by decide : 0 + 0 ≤ _), (by decide : 0 + 0 ≤ _)⟩)
    dsimp only [Pt.U, Pt.locs, Pt.cells, Pt.slots] at X424 l427 y428 z429 st430 hQ426
    subst l427 y428 z429
    obtain ⟨rfl, N431, e432⟩ := hQ426
    have N433 := Fr.app N0 N431
    refine own_bk (S' := (T420.setTop (mkF m 19 #[iv v0, iv v1, iv v2, iv v3, iv v4, iv oi, iv ri, .unset, .unset, .unset, .unset, .unset, .unset, .unset] [(.ref xo)]))) st430 ?_
    refine own_bk (S' := (T420.setTop (mkF m 21 #[iv v0, iv v1, iv v2, iv v3, iv v4, iv oi, iv ri, rv xo, .unset, .unset, .unset, .unset, .unset, .unset] []))) (fun t_ kont => XS.astore X424.here hx rfl (hb hby at_19) rfl rfl (l' := #[iv v0, iv v1, iv v2, iv v3, iv v4, iv oi, iv ri, rv xo, .unset, .unset, .unset, .unset, .unset, .unset]) rfl kont) ?_
    refine own_bk (S' := (T420.setTop (mkF m 23 #[iv v0, iv v1, iv v2, iv v3, iv v4, iv oi, iv ri, rv xo, .unset, .unset, .unset, .unset, .unset, .unset] [(.int ri)]))) (fun t_ kont => XS.iload X424.here hx rfl (hb hby at_21) rfl kont) ?_
    obtain ⟨xr, hxr⟩ : ∃ x, (if ri = 0 then r_UNCONSTRAINED else if ri = 1 then r_UNCOVERED else if ri = 2 then r_ROLE else if ri = 3 then r_NO_ROLE else if ri = 4 then r_EXCLUDED else if ri = 5 then r_LOGIN_REQUIRED else r_CONFIDENTIAL_REQUIRED) = x := ⟨_, rfl⟩
    obtain ⟨_, _, ⟨T434, L435, k436, n437⟩, -, X438, ⟨Lc439, hQ440, l441, y442, z443⟩, st444⟩ := Jvm.LawKit.callS X424 hx (y := (⟨"com/example/portcullis/portcullis/policy/WebDecisionAllowedPinLaw", "reasonOf", "(I)Lcom/example/portcullis/portcullis/policy/WebDecision$Reason;"⟩ : MethodName)) hown (mvT hZ (hw _ (List.mem_of_getElem? (i := 8) rfl))) (mvT hZ (hw _ (List.mem_of_getElem? (i := 9) rfl))) (mvT hZ (hw _ (List.mem_of_getElem? (i := 3) rfl))) (mvT hZ (hw _ (List.mem_of_getElem? (i := 10) rfl))) (by decide) (backOf (W := 0) (rm2 l Z a0 hw [] ri r_UNCONSTRAINED r_UNCOVERED r_ROLE r_NO_ROLE r_EXCLUDED r_LOGIN_REQUIRED r_CONFIDENTIAL_REQUIRED xr h0 n0 Z0 (G_UNCONSTRAINED.ext O.2) (G_UNCOVERED.ext O.2) (G_ROLE.ext O.2) (G_NO_ROLE.ext O.2) (G_EXCLUDED.ext O.2) (G_LOGIN_REQUIRED.ext O.2) (G_CONFIDENTIAL_REQUIRED.ext O.2) hxr) hZ (hw _ (List.mem_of_getElem? (i := 10) rfl)) (hw _ (List.mem_of_getElem? (i := 3) rfl)) (by decide) (by decide)) (g := (mkF m 23 #[iv v0, iv v1, iv v2, iv v3, iv v4, iv oi, iv ri, rv xo, .unset, .unset, .unset, .unset, .unset, .unset] [(.int ri)])) rfl (by rw [hml]; rfl) (argsL := [(.int ri)]) (rest := []) (lenOf (by decide +kernel : parseMethodDescriptor "(I)Lcom/example/portcullis/portcullis/policy/WebDecision$Reason;" = some ⟨[.int], some (.object "com/example/portcullis/portcullis/policy/WebDecision$Reason")⟩) rfl) rfl (by show 2 * 0 + _ ≤ _; exact Nat.le_of_eq rfl) (hb hby at_23) (fun _ _ => ⟨rfl, e432, (by decide : 0 + 0 ≤ _), (by decide : 0 + 0 ≤ _)⟩)
    dsimp only [Pt.U, Pt.locs, Pt.cells, Pt.slots] at X438 l441 y442 z443 st444 hQ440
    subst l441 y442 z443
    obtain ⟨rfl, N445, e446⟩ := hQ440
    have N447 := Fr.app N433 N445
    refine own_bk (S' := (T434.setTop (mkF m 26 #[iv v0, iv v1, iv v2, iv v3, iv v4, iv oi, iv ri, rv xo, .unset, .unset, .unset, .unset, .unset, .unset] [(.ref xr)]))) st444 ?_
    refine own_bk (S' := (T434.setTop (mkF m 28 #[iv v0, iv v1, iv v2, iv v3, iv v4, iv oi, iv ri, rv xo, rv xr, .unset, .unset, .unset, .unset, .unset] []))) (fun t_ kont => XS.astore X438.here hx rfl (hb hby at_26) rfl rfl (l' := #[iv v0, iv v1, iv v2, iv v3, iv v4, iv oi, iv ri, rv xo, rv xr, .unset, .unset, .unset, .unset, .unset]) rfl kont) ?_
    refine own_bk (S' := (T434.setTop (mkF m 29 #[iv v0, iv v1, iv v2, iv v3, iv v4, iv oi, iv ri, rv xo, rv xr, .unset, .unset, .unset, .unset, .unset] [.null]))) (fun t_ kont => XS.aconstNull X438.here hx rfl (hb hby at_28) kont) ?_
    refine own_bk (S' := (T434.setTop (mkF m 31 #[iv v0, iv v1, iv v2, iv v3, iv v4, iv oi, iv ri, rv xo, rv xr, .val .null, .unset, .unset, .unset, .unset] []))) (fun t_ kont => XS.astore X438.here hx rfl (hb hby at_29) rfl rfl (l' := #[iv v0, iv v1, iv v2, iv v3, iv v4, iv oi, iv ri, rv xo, rv xr, .val .null, .unset, .unset, .unset, .unset]) rfl kont) ?_
    refine own_bk (S' := (T434.setTop (mkF m 32 #[iv v0, iv v1, iv v2, iv v3, iv v4, iv oi, iv ri, rv xo, rv xr, .val .null, .unset, .unset, .unset, .unset] [(.int v2)]))) (fun t_ kont => XS.iloadN X438.here hx rfl (hb hby at_31) rfl kont) ?_
    refine own_bk (S' := (T434.setTop (mkF m 33 #[iv v0, iv v1, iv v2, iv v3, iv v4, iv oi, iv ri, rv xo, rv xr, .val .null, .unset, .unset, .unset, .unset] [(.int (1 : Int32)), (.int v2)]))) (fun t_ kont => XS.iconst X438.here hx rfl (hb hby at_32) kont) ?_
    refine own_bk (S' := (T434.setTop (mkF m 34 #[iv v0, iv v1, iv v2, iv v3, iv v4, iv oi, iv ri, rv xo, rv xr, .val .null, .unset, .unset, .unset, .unset] [(.int (v2 &&& (1 : Int32)))]))) (fun t_ kont => XS.iand X438.here hx rfl (hb hby at_33) rfl kont) ?_
    by_cases hc448 : ((v2 &&& (1 : Int32))) = ((0 : Int32))
    · refine own_bk (S' := (T434.setTop (mkF m 109 #[iv v0, iv v1, iv v2, iv v3, iv v4, iv oi, iv ri, rv xo, rv xr, .val .null, .unset, .unset, .unset, .unset] []))) (fun t_ kont => XS.ifYes X438.here hx rfl (pc0 := 34) (pc' := 109) rfl (hb hby at_34) rfl ((if0 _ _).trans (teq (hc448)).1) (by decide) (by decide) kont) ?_
      obtain ⟨T449, h450, X451, e452, E453, A454, D455, -, st456⟩ := newO X438 hx hZ hown (hw _ (List.mem_of_getElem? (i := 14) rfl)) (hw _ (List.mem_of_getElem? (i := 15) rfl)) (hw _ (List.mem_of_getElem? (i := 16) rfl)) e446 (g := (mkF m 109 #[iv v0, iv v1, iv v2, iv v3, iv v4, iv oi, iv ri, rv xo, rv xr, .val .null, .unset, .unset, .unset, .unset] [])) rfl (hb hby at_109) (by decide) (by decide)
      obtain ⟨a457, g458⟩ : ∃ z, z = h0.size := ⟨_, rfl⟩
      rw [← g458] at A454 D455 st456
      have ag459 : n0 ≤ a457 := Nat.le_trans Z0 (Nat.le_of_eq g458.symm)
      have Z460 := Nat.le_trans Z0 E453.1
      have hk461 := Nat.le_trans hk0 E453.1
      have O462 := O.ext E453
      have F463 : Fld Z h450 a457 "com/example/portcullis/portcullis/policy/WebDecision" "pattern" "Ljava/lang/String;" .null := (D455 (Or.inr (hw _ (List.mem_of_getElem? (i := 42) rfl))) (ty := (.object "java/lang/String")) (by decide +kernel))
      have F464 : Fld Z h450 a457 "com/example/portcullis/portcullis/policy/WebDecision" "outcome" "Lcom/example/portcullis/portcullis/policy/WebDecision$Outcome;" .null := (D455 (Or.inr (hw _ (List.mem_of_getElem? (i := 44) rfl))) (ty := (.object "com/example/portcullis/portcullis/policy/WebDecision$Outcome")) (by decide +kernel))
      have F465 : Fld Z h450 a457 "com/example/portcullis/portcullis/policy/WebDecision" "reason" "Lcom/example/portcullis/portcullis/policy/WebDecision$Reason;" .null := (D455 (Or.inr (hw _ (List.mem_of_getElem? (i := 46) rfl))) (ty := (.object "com/example/portcullis/portcullis/policy/WebDecision$Reason")) (by decide +kernel))
      refine own_bk (S' := (T449.setTop (mkF m 112 #[iv v0, iv v1, iv v2, iv v3, iv v4, iv oi, iv ri, rv xo, rv xr, .val .null, .unset, .unset, .unset, .unset] [(.ref a457)]))) st456 ?_
      refine own_bk (S' := (T449.setTop (mkF m 113 #[iv v0, iv v1, iv v2, iv v3, iv v4, iv oi, iv ri, rv xo, rv xr, .val .null, .unset, .unset, .unset, .unset] [(.ref a457), (.ref a457)]))) (fun t_ kont => XS.dup X451.here hx rfl (hb hby at_112) rfl rfl kont) ?_
      refine own_bk (S' := (T449.setTop (mkF m 115 #[iv v0, iv v1, iv v2, iv v3, iv v4, iv oi, iv ri, rv xo, rv xr, .val .null, .unset, .unset, .unset, .unset] [.null, (.ref a457), (.ref a457)]))) (fun t_ kont => XS.aload X451.here hx rfl (hb hby at_113) rfl rfl kont) ?_
      refine own_bk (S' := (T449.setTop (mkF m 117 #[iv v0, iv v1, iv v2, iv v3, iv v4, iv oi, iv ri, rv xo, rv xr, .val .null, .unset, .unset, .unset, .unset] [(.ref xo), .null, (.ref a457), (.ref a457)]))) (fun t_ kont => XS.aload X451.here hx rfl (hb hby at_115) rfl rfl kont) ?_
      refine own_bk (S' := (T449.setTop (mkF m 119 #[iv v0, iv v1, iv v2, iv v3, iv v4, iv oi, iv ri, rv xo, rv xr, .val .null, .unset, .unset, .unset, .unset] [(.ref xr), (.ref xo), .null, (.ref a457), (.ref a457)]))) (fun t_ kont => XS.aload X451.here hx rfl (hb hby at_117) rfl rfl kont) ?_
      obtain ⟨_, _, ⟨T469, L470, k471, n472⟩, -, X473, hS2_, hgr_, ⟨Lc474, hQ475, l476, y477, z478⟩, st479⟩ := X451.specialBackS hx (y := (⟨"com/example/portcullis/portcullis/policy/WebDecision", "<init>", "(Ljava/lang/String;Lcom/example/portcullis/portcullis/policy/WebDecision$Outcome;Lcom/example/portcullis/portcullis/policy/WebDecision$Reason;)V"⟩ : MethodName)) rfl hown (mvT hZ (hw _ (List.mem_of_getElem? (i := 17) rfl))) (mvT hZ (hw _ (List.mem_of_getElem? (i := 18) rfl))) (mvT hZ (hw _ (List.mem_of_getElem? (i := 19) rfl))) (by decide) (backOfS (W := 1) (rm3N l Z a0 hw [] a457 xo xr h450 n0 Z460 O462 A454 ag459 F463 F464 F465) hZ (hw _ (List.mem_of_getElem? (i := 19) rfl)) (hw _ (List.mem_of_getElem? (i := 16) rfl)) (by decide) (by decide)) (g := (mkF m 119 #[iv v0, iv v1, iv v2, iv v3, iv v4, iv oi, iv ri, rv xo, rv xr, .val .null, .unset, .unset, .unset, .unset] [(.ref xr), (.ref xo), .null, (.ref a457), (.ref a457)])) rfl (by rw [hml]; rfl) (Steps.refl _) (a := a457) (argsL := [.null, (.ref xo), (.ref xr)]) (rest := [(.ref a457)]) (lenOf (by decide +kernel : parseMethodDescriptor "(Ljava/lang/String;Lcom/example/portcullis/portcullis/policy/WebDecision$Outcome;Lcom/example/portcullis/portcullis/policy/WebDecision$Reason;)V" = some ⟨[(.object "java/lang/String"), (.object "com/example/portcullis/portcullis/policy/WebDecision$Outcome"), (.object "com/example/portcullis/portcullis/policy/WebDecision$Reason")], none⟩) rfl) rfl (by show 2 * 0 + _ ≤ _; exact Nat.le_of_eq rfl) (hb hby at_119) (fun _ _ => ⟨rfl, e452, (by decide : 1 + 4 ≤ _), (by decide : 3 + 60 ≤ _)⟩)
      dsimp only [Pt.U, Pt.locs, Pt.cells, Pt.slots] at X473 l476 y477 z478 st479 hQ475 hS2_ hgr_
      subst l476 y477 z478
      obtain ⟨X480, hS, hZ, hown⟩ := rebS hS (by rw [show T449.heap = h450 from e452]; exact hk461) X473 hS2_ hgr_ hZ hown
      obtain ⟨rfl, N481, O468, K466, g467⟩ := hQ475
      have N483 := Fr.app N447 N481
      have E484 := (A454.keep K466)
      have Z485 := Nat.le_trans Z460 K466.1
      have O486 := O462.keep K466 (allS ag459 all0)
      refine own_tr (S' := (T469.setTop (mkF m 122 #[iv v0, iv v1, iv v2, iv v3, iv v4, iv oi, iv ri, rv xo, rv xr, .val .null, .unset, .unset, .unset, .unset] [(.ref a457)]))) st479 ?_
      refine own_bk (S' := (T469.setTop (mkF m 124 #[iv v0, iv v1, iv v2, iv v3, iv v4, iv oi, iv ri, rv xo, rv xr, .val .null, rv a457, .unset, .unset, .unset] []))) (fun t_ kont => XS.astore X480.here hx rfl (hb hby at_122) rfl rfl (l' := #[iv v0, iv v1, iv v2, iv v3, iv v4, iv oi, iv ri, rv xo, rv xr, .val .null, rv a457, .unset, .unset, .unset]) rfl kont) ?_
      refine own_bk (S' := (T469.setTop (mkF m 126 #[iv v0, iv v1, iv v2, iv v3, iv v4, iv oi, iv ri, rv xo, rv xr, .val .null, rv a457, .unset, .unset, .unset] [(.ref a457)]))) (fun t_ kont => XS.aload X480.here hx rfl (hb hby at_124) rfl rfl kont) ?_
      obtain ⟨cqq498, kqq498, q498a, q498b, q498c⟩ := isOf hZ rfl E484
      obtain ⟨_, _, ⟨T487, L488, k489, n490⟩, -, X491, ⟨Lc492, hQ493, l494, y495, z496⟩, st497⟩ := X480.virtualBack hx (y := (⟨"com/example/portcullis/portcullis/policy/WebDecision", "allowed", "()Z"⟩ : MethodName)) (z := (⟨"com/example/portcullis/portcullis/policy/WebDecision", "allowed", "()Z"⟩ : MethodName)) hown (mvT hZ (hw _ (List.mem_of_getElem? (i := 47) rfl))) (mvT hZ (hw _ (List.mem_of_getElem? (i := 48) rfl))) (notFace_of_selects (args := #[]) (mvT hZ (hw _ (List.mem_of_getElem? (i := 50) rfl)))) (mvT hZ (hw _ (List.mem_of_getElem? (i := 50) rfl))) (mvT hZ (hw _ (List.mem_of_getElem? (i := 49) rfl))) (by decide) (backOf (W := 0) (rm7 l Z a0 hw [] a457 xo r_ALLOW (0 : Int32) T469.heap n0 Z485 g467 (G_ALLOW.1.ext O468.2) (by simp [hne])) hZ (hw _ (List.mem_of_getElem? (i := 51) rfl)) (hw _ (List.mem_of_getElem? (i := 16) rfl)) (by decide) (by decide)) q498a q498c (g := (mkF m 126 #[iv v0, iv v1, iv v2, iv v3, iv v4, iv oi, iv ri, rv xo, rv xr, .val .null, rv a457, .unset, .unset, .unset] [(.ref a457)])) rfl (by rw [hml]; rfl) (Steps.refl _) (argsL := []) (rest := []) (lenOf (by decide +kernel : parseMethodDescriptor "()Z" = some ⟨[], some .boolean⟩) rfl) rfl (by show 2 * 0 + _ ≤ _; exact Nat.le_of_eq rfl) (hb hby at_126) (fun _ _ => ⟨rfl, rfl, (by decide : 5 + 0 ≤ _), (by decide : 63 + 0 ≤ _)⟩)
      dsimp only [Pt.U, Pt.locs, Pt.cells, Pt.slots] at X491 l494 y495 z496 st497 hQ493
      subst l494 y495 z496
      obtain ⟨rfl, N499, e500⟩ := hQ493
      have N501 := Fr.app N483 N499
      refine own_tr (S' := (T487.setTop (mkF m 129 #[iv v0, iv v1, iv v2, iv v3, iv v4, iv oi, iv ri, rv xo, rv xr, .val .null, rv a457, .unset, .unset, .unset] [(.int (0 : Int32))]))) st497 ?_
      refine own_bk (S' := (T487.setTop (mkF m 131 #[iv v0, iv v1, iv v2, iv v3, iv v4, iv oi, iv ri, rv xo, rv xr, .val .null, rv a457, iv (0 : Int32), .unset, .unset] []))) (fun t_ kont => XS.istore X491.here hx rfl (hb hby at_129) rfl (l' := #[iv v0, iv v1, iv v2, iv v3, iv v4, iv oi, iv ri, rv xo, rv xr, .val .null, rv a457, iv (0 : Int32), .unset, .unset]) rfl kont) ?_
      refine own_bk (S' := (T487.setTop (mkF m 133 #[iv v0, iv v1, iv v2, iv v3, iv v4, iv oi, iv ri, rv xo, rv xr, .val .null, rv a457, iv (0 : Int32), .unset, .unset] [(.ref a457)]))) (fun t_ kont => XS.aload X491.here hx rfl (hb hby at_131) rfl rfl kont) ?_
      obtain ⟨cqq513, kqq513, q513a, q513b, q513c⟩ := isOf hZ e500 E484
      obtain ⟨_, _, ⟨T502, L503, k504, n505⟩, -, X506, ⟨Lc507, hQ508, l509, y510, z511⟩, st512⟩ := X491.virtualBack hx (y := (⟨"com/example/portcullis/portcullis/policy/WebDecision", "allowed", "()Z"⟩ : MethodName)) (z := (⟨"com/example/portcullis/portcullis/policy/WebDecision", "allowed", "()Z"⟩ : MethodName)) hown (mvT hZ (hw _ (List.mem_of_getElem? (i := 47) rfl))) (mvT hZ (hw _ (List.mem_of_getElem? (i := 48) rfl))) (notFace_of_selects (args := #[]) (mvT hZ (hw _ (List.mem_of_getElem? (i := 50) rfl)))) (mvT hZ (hw _ (List.mem_of_getElem? (i := 50) rfl))) (mvT hZ (hw _ (List.mem_of_getElem? (i := 49) rfl))) (by decide) (backOf (W := 0) (rm7 l Z a0 hw [] a457 xo r_ALLOW (0 : Int32) T469.heap n0 Z485 g467 (G_ALLOW.1.ext O468.2) (by simp [hne])) hZ (hw _ (List.mem_of_getElem? (i := 51) rfl)) (hw _ (List.mem_of_getElem? (i := 16) rfl)) (by decide) (by decide)) q513a q513c (g := (mkF m 133 #[iv v0, iv v1, iv v2, iv v3, iv v4, iv oi, iv ri, rv xo, rv xr, .val .null, rv a457, iv (0 : Int32), .unset, .unset] [(.ref a457)])) rfl (by rw [hml]; rfl) (Steps.refl _) (argsL := []) (rest := []) (lenOf (by decide +kernel : parseMethodDescriptor "()Z" = some ⟨[], some .boolean⟩) rfl) rfl (by show 2 * 0 + _ ≤ _; exact Nat.le_of_eq rfl) (hb hby at_133) (fun _ _ => ⟨rfl, e500, (by decide : 5 + 0 ≤ _), (by decide : 63 + 0 ≤ _)⟩)
      dsimp only [Pt.U, Pt.locs, Pt.cells, Pt.slots] at X506 l509 y510 z511 st512 hQ508
      subst l509 y510 z511
      obtain ⟨rfl, N514, e515⟩ := hQ508
      have N516 := Fr.app N501 N514
      refine own_tr (S' := (T502.setTop (mkF m 136 #[iv v0, iv v1, iv v2, iv v3, iv v4, iv oi, iv ri, rv xo, rv xr, .val .null, rv a457, iv (0 : Int32), .unset, .unset] [(.int (0 : Int32))]))) st512 ?_
      refine own_bk (S' := (T502.setTop (mkF m 138 #[iv v0, iv v1, iv v2, iv v3, iv v4, iv oi, iv ri, rv xo, rv xr, .val .null, rv a457, iv (0 : Int32), iv (0 : Int32), .unset] []))) (fun t_ kont => XS.istore X506.here hx rfl (hb hby at_136) rfl (l' := #[iv v0, iv v1, iv v2, iv v3, iv v4, iv oi, iv ri, rv xo, rv xr, .val .null, rv a457, iv (0 : Int32), iv (0 : Int32), .unset]) rfl kont) ?_
      refine own_bk (S' := (T502.setTop (mkF m 140 #[iv v0, iv v1, iv v2, iv v3, iv v4, iv oi, iv ri, rv xo, rv xr, .val .null, rv a457, iv (0 : Int32), iv (0 : Int32), .unset] [(.int oi)]))) (fun t_ kont => XS.iload X506.here hx rfl (hb hby at_138) rfl kont) ?_
      refine own_bk (S' := (T502.setTop (mkF m 147 #[iv v0, iv v1, iv v2, iv v3, iv v4, iv oi, iv ri, rv xo, rv xr, .val .null, rv a457, iv (0 : Int32), iv (0 : Int32), .unset] []))) (fun t_ kont => XS.ifYes X506.here hx rfl (pc0 := 140) (pc' := 147) rfl (hb hby at_140) rfl ((if0 _ _).trans (feq (hc1)).2) (by decide) (by decide) kont) ?_
      refine own_bk (S' := (T502.setTop (mkF m 148 #[iv v0, iv v1, iv v2, iv v3, iv v4, iv oi, iv ri, rv xo, rv xr, .val .null, rv a457, iv (0 : Int32), iv (0 : Int32), .unset] [(.int (0 : Int32))]))) (fun t_ kont => XS.iconst X506.here hx rfl (hb hby at_147) kont) ?_
      refine own_bk (S' := (T502.setTop (mkF m 150 #[iv v0, iv v1, iv v2, iv v3, iv v4, iv oi, iv ri, rv xo, rv xr, .val .null, rv a457, iv (0 : Int32), iv (0 : Int32), iv (0 : Int32)] []))) (fun t_ kont => XS.istore X506.here hx rfl (hb hby at_148) rfl (l' := #[iv v0, iv v1, iv v2, iv v3, iv v4, iv oi, iv ri, rv xo, rv xr, .val .null, rv a457, iv (0 : Int32), iv (0 : Int32), iv (0 : Int32)]) rfl kont) ?_
      refine own_bk (S' := (T502.setTop (mkF m 152 #[iv v0, iv v1, iv v2, iv v3, iv v4, iv oi, iv ri, rv xo, rv xr, .val .null, rv a457, iv (0 : Int32), iv (0 : Int32), iv (0 : Int32)] [(.int (0 : Int32))]))) (fun t_ kont => XS.iload X506.here hx rfl (hb hby at_150) rfl kont) ?_
      refine own_bk (S' := (T502.setTop (mkF m 154 #[iv v0, iv v1, iv v2, iv v3, iv v4, iv oi, iv ri, rv xo, rv xr, .val .null, rv a457, iv (0 : Int32), iv (0 : Int32), iv (0 : Int32)] [(.int (0 : Int32)), (.int (0 : Int32))]))) (fun t_ kont => XS.iload X506.here hx rfl (hb hby at_152) rfl kont) ?_
      refine own_bk (S' := (T502.setTop (mkF m 157 #[iv v0, iv v1, iv v2, iv v3, iv v4, iv oi, iv ri, rv xo, rv xr, .val .null, rv a457, iv (0 : Int32), iv (0 : Int32), iv (0 : Int32)] []))) (fun t_ kont => XS.icmpNo X506.here hx rfl (hb hby at_154) rfl (teq (by decide : ((0 : Int32)) = ((0 : Int32)))).2 kont) ?_
      refine own_bk (S' := (T502.setTop (mkF m 159 #[iv v0, iv v1, iv v2, iv v3, iv v4, iv oi, iv ri, rv xo, rv xr, .val .null, rv a457, iv (0 : Int32), iv (0 : Int32), iv (0 : Int32)] [(.int (0 : Int32))]))) (fun t_ kont => XS.iload X506.here hx rfl (hb hby at_157) rfl kont) ?_
      refine own_bk (S' := (T502.setTop (mkF m 161 #[iv v0, iv v1, iv v2, iv v3, iv v4, iv oi, iv ri, rv xo, rv xr, .val .null, rv a457, iv (0 : Int32), iv (0 : Int32), iv (0 : Int32)] [(.int (0 : Int32)), (.int (0 : Int32))]))) (fun t_ kont => XS.iload X506.here hx rfl (hb hby at_159) rfl kont) ?_
      refine own_bk (S' := (T502.setTop (mkF m 164 #[iv v0, iv v1, iv v2, iv v3, iv v4, iv oi, iv ri, rv xo, rv xr, .val .null, rv a457, iv (0 : Int32), iv (0 : Int32), iv (0 : Int32)] []))) (fun t_ kont => XS.icmpNo X506.here hx rfl (hb hby at_161) rfl (teq (by decide : ((0 : Int32)) = ((0 : Int32)))).2 kont) ?_
      refine own_bk (S' := (T502.setTop (mkF m 165 #[iv v0, iv v1, iv v2, iv v3, iv v4, iv oi, iv ri, rv xo, rv xr, .val .null, rv a457, iv (0 : Int32), iv (0 : Int32), iv (0 : Int32)] [(.int (1 : Int32))]))) (fun t_ kont => XS.iconst X506.here hx rfl (hb hby at_164) kont) ?_
      refine own_bk (S' := (T502.setTop (mkF m 169 #[iv v0, iv v1, iv v2, iv v3, iv v4, iv oi, iv ri, rv xo, rv xr, .val .null, rv a457, iv (0 : Int32), iv (0 : Int32), iv (0 : Int32)] [(.int (1 : Int32))]))) (fun t_ kont => XS.goto X506.here hx rfl (pc0 := 165) (pc' := 169) rfl (hb hby at_165) (by decide) (by decide) kont) ?_
      exact own_retNW hS X506 (by rw [show T502.heap = T469.heap from e515]; exact (Nat.le_refl _)) hx hlk (t := .boolean) (w := (1 : Int32)) Bd.returns (by simp) (hb hby at_169) rfl ⟨rfl, N516⟩ (by decide) (by decide)
    · refine own_bk (S' := (T434.setTop (mkF m 37 #[iv v0, iv v1, iv v2, iv v3, iv v4, iv oi, iv ri, rv xo, rv xr, .val .null, .unset, .unset, .unset, .unset] []))) (fun t_ kont => XS.ifNo X438.here hx rfl (hb hby at_34) rfl ((if0 _ _).trans (feq (hc448)).1) kont) ?_
      refine own_bk (S' := (T434.setTop (mkF m 38 #[iv v0, iv v1, iv v2, iv v3, iv v4, iv oi, iv ri, rv xo, rv xr, .val .null, .unset, .unset, .unset, .unset] [(.int v2)]))) (fun t_ kont => XS.iloadN X438.here hx rfl (hb hby at_37) rfl kont) ?_
      refine own_bk (S' := (T434.setTop (mkF m 39 #[iv v0, iv v1, iv v2, iv v3, iv v4, iv oi, iv ri, rv xo, rv xr, .val .null, .unset, .unset, .unset, .unset] [(.int (2 : Int32)), (.int v2)]))) (fun t_ kont => XS.iconst X438.here hx rfl (hb hby at_38) kont) ?_
      refine own_bk (S' := (T434.setTop (mkF m 40 #[iv v0, iv v1, iv v2, iv v3, iv v4, iv oi, iv ri, rv xo, rv xr, .val .null, .unset, .unset, .unset, .unset] [(.int (v2 &&& (2 : Int32)))]))) (fun t_ kont => XS.iand X438.here hx rfl (hb hby at_39) rfl kont) ?_
      by_cases hc517 : ((v2 &&& (2 : Int32))) = ((0 : Int32))
      · refine own_bk (S' := (T434.setTop (mkF m 83 #[iv v0, iv v1, iv v2, iv v3, iv v4, iv oi, iv ri, rv xo, rv xr, .val .null, .unset, .unset, .unset, .unset] []))) (fun t_ kont => XS.ifYes X438.here hx rfl (pc0 := 40) (pc' := 83) rfl (hb hby at_40) rfl ((if0 _ _).trans (teq (hc517)).1) (by decide) (by decide) kont) ?_
        refine own_bk (S' := (T434.setTop (mkF m 84 #[iv v0, iv v1, iv v2, iv v3, iv v4, iv oi, iv ri, rv xo, rv xr, .val .null, .unset, .unset, .unset, .unset] [(.int (1 : Int32))]))) (fun t_ kont => XS.iconst X438.here hx rfl (hb hby at_83) kont) ?_
        obtain ⟨T518, h519, k520, X521, e522, E523, A524, st525⟩ := newP X438 hx hZ (hw _ (List.mem_of_getElem? (i := 59) rfl)) e446 (g := (mkF m 84 #[iv v0, iv v1, iv v2, iv v3, iv v4, iv oi, iv ri, rv xo, rv xr, .val .null, .unset, .unset, .unset, .unset] [(.int (1 : Int32))])) rfl (hb hby at_84) rfl (by decide : ¬ ((1 : Int32) < (0 : Int32))) (cap := 1) (by decide : (1 : Int32).toNatClampNeg ≤ 1) (by decide) (by decide) (by decide)
        obtain ⟨a526, g527⟩ : ∃ z, z = h0.size := ⟨_, rfl⟩
        rw [← g527] at A524 st525
        have ag529 : n0 ≤ a526 := Nat.le_trans Z0 (Nat.le_of_eq g527.symm)
        have Z530 := Nat.le_trans Z0 E523.1
        have hk531 := Nat.le_trans hk0 E523.1
        have O532 := O.ext E523
        have V528 : Arv Z h519 a526 k520 .char (1 : Int32) [] (.int (0 : Int32)) := (Arv.new A524 (by decide : ¬ ((1 : Int32) < (0 : Int32))))
        have V533 : Arv Z h519 a526 k520 .char (1 : Int32) [(.int (0 : Int32))] (.int (0 : Int32)) := (V528.pad (pad_rep [] (.int (0 : Int32)) 1))
        refine own_bk (S' := (T518.setTop (mkF m 86 #[iv v0, iv v1, iv v2, iv v3, iv v4, iv oi, iv ri, rv xo, rv xr, .val .null, .unset, .unset, .unset, .unset] [(.ref a526)]))) st525 ?_
        refine own_bk (S' := (T518.setTop (mkF m 88 #[iv v0, iv v1, iv v2, iv v3, iv v4, iv oi, iv ri, rv xo, rv xr, .val .null, rv a526, .unset, .unset, .unset] []))) (fun t_ kont => XS.astore X521.here hx rfl (hb hby at_86) rfl rfl (l' := #[iv v0, iv v1, iv v2, iv v3, iv v4, iv oi, iv ri, rv xo, rv xr, .val .null, rv a526, .unset, .unset, .unset]) rfl kont) ?_
        refine own_bk (S' := (T518.setTop (mkF m 90 #[iv v0, iv v1, iv v2, iv v3, iv v4, iv oi, iv ri, rv xo, rv xr, .val .null, rv a526, .unset, .unset, .unset] [(.ref a526)]))) (fun t_ kont => XS.aload X521.here hx rfl (hb hby at_88) rfl rfl kont) ?_
        refine own_bk (S' := (T518.setTop (mkF m 91 #[iv v0, iv v1, iv v2, iv v3, iv v4, iv oi, iv ri, rv xo, rv xr, .val .null, rv a526, .unset, .unset, .unset] [(.int (0 : Int32)), (.ref a526)]))) (fun t_ kont => XS.iconst X521.here hx rfl (hb hby at_90) kont) ?_
        refine own_bk (S' := (T518.setTop (mkF m 92 #[iv v0, iv v1, iv v2, iv v3, iv v4, iv oi, iv ri, rv xo, rv xr, .val .null, rv a526, .unset, .unset, .unset] [(.int v3), (.int (0 : Int32)), (.ref a526)]))) (fun t_ kont => XS.iloadN X521.here hx rfl (hb hby at_91) rfl kont) ?_
        refine own_bk (S' := (T518.setTop (mkF m 95 #[iv v0, iv v1, iv v2, iv v3, iv v4, iv oi, iv ri, rv xo, rv xr, .val .null, rv a526, .unset, .unset, .unset] [(.int (255 : Int32)), (.int v3), (.int (0 : Int32)), (.ref a526)]))) (fun t_ kont => XS.sipush X521.here hx rfl (hb hby at_92) kont) ?_
        refine own_bk (S' := (T518.setTop (mkF m 96 #[iv v0, iv v1, iv v2, iv v3, iv v4, iv oi, iv ri, rv xo, rv xr, .val .null, rv a526, .unset, .unset, .unset] [(.int (v3 &&& (255 : Int32))), (.int (0 : Int32)), (.ref a526)]))) (fun t_ kont => XS.iand X521.here hx rfl (hb hby at_95) rfl kont) ?_
        refine own_bk (S' := (T518.setTop (mkF m 97 #[iv v0, iv v1, iv v2, iv v3, iv v4, iv oi, iv ri, rv xo, rv xr, .val .null, rv a526, .unset, .unset, .unset] [(.int ((v3 &&& (255 : Int32)).toUInt32.toUInt16.toUInt32.toInt32)), (.int (0 : Int32)), (.ref a526)]))) (fun t_ kont => XS.i2c X521.here hx rfl (hb hby at_96) rfl kont) ?_
        obtain ⟨c534, A535, q536, S537, M538, H539, U540⟩ := id V533
        obtain ⟨T541, h542, X543, e544, W545, st546⟩ := stC X521 hx hZ e522 A535 (j := (0 : Int32)) (inb_of S537 ⟨(by decide : ¬ ((0 : Int32) < (0 : Int32))), (by decide : (0 : Int32) < (1 : Int32))⟩) (g := (mkF m 97 #[iv v0, iv v1, iv v2, iv v3, iv v4, iv oi, iv ri, rv xo, rv xr, .val .null, rv a526, .unset, .unset, .unset] [(.int ((v3 &&& (255 : Int32)).toUInt32.toUInt16.toUInt32.toInt32)), (.int (0 : Int32)), (.ref a526)])) rfl rfl (hb hby at_97)
        have N547 := Fr.snoc X543 N447 ag529
        have Z548 := Nat.le_trans Z530 (Keep.of_wr W545).1
        have hk549 := Nat.le_trans hk531 (Keep.of_wr W545).1
        have O550 := O532.wr W545 ag529
        have V551 : Arv Z h542 a526 k520 .char (1 : Int32) [(.int (nar .char ((v3 &&& (255 : Int32)).toUInt32.toUInt16.toUInt32.toInt32)))] (.int (0 : Int32)) := (Arv.set A535 q536 S537 M538 H539 U540 (fits_nar_char _) W545 0 rfl (Nat.le_of_ble_eq_true rfl))
        refine own_bk (S' := (T541.setTop (mkF m 98 #[iv v0, iv v1, iv v2, iv v3, iv v4, iv oi, iv ri, rv xo, rv xr, .val .null, rv a526, .unset, .unset, .unset] []))) st546 ?_
        obtain ⟨T552, h553, X554, e555, E556, A557, D558, -, st559⟩ := newO X543 hx hZ hown (hw _ (List.mem_of_getElem? (i := 60) rfl)) (hw _ (List.mem_of_getElem? (i := 30) rfl)) (hw _ (List.mem_of_getElem? (i := 29) rfl)) e544 (g := (mkF m 98 #[iv v0, iv v1, iv v2, iv v3, iv v4, iv oi, iv ri, rv xo, rv xr, .val .null, rv a526, .unset, .unset, .unset] [])) rfl (hb hby at_98) (by decide) (by decide)
        obtain ⟨a560, g561⟩ : ∃ z, z = h542.size := ⟨_, rfl⟩
        rw [← g561] at A557 D558 st559
        have ne562 : a526 ≠ a560 := Nat.ne_of_lt (Nat.lt_of_lt_of_le V551.lt (Nat.le_of_eq g561.symm))
        have ag563 : n0 ≤ a560 := Nat.le_trans Z548 (Nat.le_of_eq g561.symm)
        have V564 := (V551.ext E556)
        have Z565 := Nat.le_trans Z548 E556.1
        have hk566 := Nat.le_trans hk549 E556.1
        have O567 := O550.ext E556
        have F568 : Fld Z h553 a560 "java/lang/String" "value" "[B" .null := (D558 (Or.inr (hw _ (List.mem_of_getElem? (i := 32) rfl))) (ty := (.array .byte)) (by decide +kernel))
        have F569 : Fld Z h553 a560 "java/lang/String" "coder" "B" (.int (0 : Int32)) := (D558 (Or.inr (hw _ (List.mem_of_getElem? (i := 33) rfl))) (ty := .byte) (by decide +kernel))
        refine own_bk (S' := (T552.setTop (mkF m 101 #[iv v0, iv v1, iv v2, iv v3, iv v4, iv oi, iv ri, rv xo, rv xr, .val .null, rv a526, .unset, .unset, .unset] [(.ref a560)]))) st559 ?_
        refine own_bk (S' := (T552.setTop (mkF m 102 #[iv v0, iv v1, iv v2, iv v3, iv v4, iv oi, iv ri, rv xo, rv xr, .val .null, rv a526, .unset, .unset, .unset] [(.ref a560), (.ref a560)]))) (fun t_ kont => XS.dup X554.here hx rfl (hb hby at_101) rfl rfl kont) ?_
        refine own_bk (S' := (T552.setTop (mkF m 104 #[iv v0, iv v1, iv v2, iv v3, iv v4, iv oi, iv ri, rv xo, rv xr, .val .null, rv a526, .unset, .unset, .unset] [(.ref a526), (.ref a560), (.ref a560)]))) (fun t_ kont => XS.aload X554.here hx rfl (hb hby at_102) rfl rfl kont) ?_
        have hp570 : ∀ c ∈ ([(nar .char ((v3 &&& (255 : Int32)).toUInt32.toUInt16.toUInt32.toInt32))] : List Int32), ¬ c < 0 ∧ ¬ (255 : Int32) < c := by
          intro c hc; simp only [List.mem_cons, List.not_mem_nil, or_false] at hc; rcases hc with rfl
          · exact own_n255 v3
        have hws571 : ∀ d ∈ StrChars.Road.words, d.before a0 Z = true := fun d hd => hw d ((by decide +kernel : ∀ d ∈ StrChars.Road.words, d ∈ tables_1) d hd)
        obtain ⟨_, _, ⟨T582, L583, k584, n585⟩, -, X586, ⟨Lc587, hQ588, l589, y590, z591⟩, st592⟩ := X554.specialBack hx (y := (⟨"java/lang/String", "<init>", "([C)V"⟩ : MethodName)) rfl hown (mvT hZ (hw _ (List.mem_of_getElem? (i := 61) rfl))) (mvT hZ (hw _ (List.mem_of_getElem? (i := 62) rfl))) (mvT hZ (hw _ (List.mem_of_getElem? (i := 63) rfl))) (by decide) (StrChars.Road.backV (W := 1) hZ hws571 (kI := 4) (hw _ (List.mem_of_getElem? (i := 30) rfl)) (cs := ([(nar .char ((v3 &&& (255 : Int32)).toUInt32.toUInt16.toUInt32.toInt32))] : List Int32)) (bs := (([(nar .char ((v3 &&& (255 : Int32)).toUInt32.toUInt16.toUInt32.toInt32))] : List Int32)).map (fun c => c.toInt8.toInt32)) (n := 1) ag563 Z565 A557 F568 F569 V564 (SC.ext O567.2) hcz rfl rfl (by decide) (by decide) hp570 rfl (by decide) (by decide)) (g := (mkF m 104 #[iv v0, iv v1, iv v2, iv v3, iv v4, iv oi, iv ri, rv xo, rv xr, .val .null, rv a526, .unset, .unset, .unset] [(.ref a526), (.ref a560), (.ref a560)])) rfl (by rw [hml]; rfl) (Steps.refl _) (a := a560) (argsL := [(.ref a526)]) (rest := [(.ref a560)]) (lenOf (by decide +kernel : parseMethodDescriptor "([C)V" = some ⟨[(.array .char)], none⟩) rfl) rfl (by show 2 * 0 + _ ≤ _; exact Nat.le_of_eq rfl) (hb hby at_104) (fun _ _ => ⟨rfl, e555, (by decide : 2 + 1 ≤ _), (by decide : 5 + 1 ≤ _)⟩)
        dsimp only [Pt.U, Pt.locs, Pt.cells, Pt.slots] at X586 l589 y590 z591 st592 hQ588
        subst l589 y590 z591
        obtain ⟨rfl, N593, K572, g580, g575, t573, kb574, u577, u578, u579, g576, V581⟩ := hQ588
        have N595 := Fr.app N547 N593
        have V596 := (V564.keep K572 (ninS ne562 nin0))
        have E597 := (A557.keep K572)
        have Z598 := Nat.le_trans Z565 K572.1
        have hk599 := Nat.le_trans hk566 K572.1
        have O600 := O567.keep K572 (allS ag563 all0)
        refine own_tr (S' := (T582.setTop (mkF m 107 #[iv v0, iv v1, iv v2, iv v3, iv v4, iv oi, iv ri, rv xo, rv xr, .val .null, rv a526, .unset, .unset, .unset] [(.ref a560)]))) st592 ?_
        refine own_bk (S' := (T582.setTop (mkF m 109 #[iv v0, iv v1, iv v2, iv v3, iv v4, iv oi, iv ri, rv xo, rv xr, rv a560, rv a526, .unset, .unset, .unset] []))) (fun t_ kont => XS.astore X586.here hx rfl (hb hby at_107) rfl rfl (l' := #[iv v0, iv v1, iv v2, iv v3, iv v4, iv oi, iv ri, rv xo, rv xr, rv a560, rv a526, .unset, .unset, .unset]) rfl kont) ?_
        obtain ⟨T601, h602, X603, e604, E605, A606, D607, -, st608⟩ := newO X586 hx hZ hown (hw _ (List.mem_of_getElem? (i := 14) rfl)) (hw _ (List.mem_of_getElem? (i := 15) rfl)) (hw _ (List.mem_of_getElem? (i := 16) rfl)) rfl (g := (mkF m 109 #[iv v0, iv v1, iv v2, iv v3, iv v4, iv oi, iv ri, rv xo, rv xr, rv a560, rv a526, .unset, .unset, .unset] [])) rfl (hb hby at_109) (by decide) (by decide)
        obtain ⟨a609, g610⟩ : ∃ z, z = T582.heap.size := ⟨_, rfl⟩
        rw [← g610] at A606 D607 st608
        have ag611 : n0 ≤ a609 := Nat.le_trans Z598 (Nat.le_of_eq g610.symm)
        have Z612 := Nat.le_trans Z598 E605.1
        have hk613 := Nat.le_trans hk599 E605.1
        have O614 := O600.ext E605
        have F615 : Fld Z h602 a609 "com/example/portcullis/portcullis/policy/WebDecision" "pattern" "Ljava/lang/String;" .null := (D607 (Or.inr (hw _ (List.mem_of_getElem? (i := 42) rfl))) (ty := (.object "java/lang/String")) (by decide +kernel))
        have F616 : Fld Z h602 a609 "com/example/portcullis/portcullis/policy/WebDecision" "outcome" "Lcom/example/portcullis/portcullis/policy/WebDecision$Outcome;" .null := (D607 (Or.inr (hw _ (List.mem_of_getElem? (i := 44) rfl))) (ty := (.object "com/example/portcullis/portcullis/policy/WebDecision$Outcome")) (by decide +kernel))
        have F617 : Fld Z h602 a609 "com/example/portcullis/portcullis/policy/WebDecision" "reason" "Lcom/example/portcullis/portcullis/policy/WebDecision$Reason;" .null := (D607 (Or.inr (hw _ (List.mem_of_getElem? (i := 46) rfl))) (ty := (.object "com/example/portcullis/portcullis/policy/WebDecision$Reason")) (by decide +kernel))
        refine own_bk (S' := (T601.setTop (mkF m 112 #[iv v0, iv v1, iv v2, iv v3, iv v4, iv oi, iv ri, rv xo, rv xr, rv a560, rv a526, .unset, .unset, .unset] [(.ref a609)]))) st608 ?_
        refine own_bk (S' := (T601.setTop (mkF m 113 #[iv v0, iv v1, iv v2, iv v3, iv v4, iv oi, iv ri, rv xo, rv xr, rv a560, rv a526, .unset, .unset, .unset] [(.ref a609), (.ref a609)]))) (fun t_ kont => XS.dup X603.here hx rfl (hb hby at_112) rfl rfl kont) ?_
        refine own_bk (S' := (T601.setTop (mkF m 115 #[iv v0, iv v1, iv v2, iv v3, iv v4, iv oi, iv ri, rv xo, rv xr, rv a560, rv a526, .unset, .unset, .unset] [(.ref a560), (.ref a609), (.ref a609)]))) (fun t_ kont => XS.aload X603.here hx rfl (hb hby at_113) rfl rfl kont) ?_
        refine own_bk (S' := (T601.setTop (mkF m 117 #[iv v0, iv v1, iv v2, iv v3, iv v4, iv oi, iv ri, rv xo, rv xr, rv a560, rv a526, .unset, .unset, .unset] [(.ref xo), (.ref a560), (.ref a609), (.ref a609)]))) (fun t_ kont => XS.aload X603.here hx rfl (hb hby at_115) rfl rfl kont) ?_
        refine own_bk (S' := (T601.setTop (mkF m 119 #[iv v0, iv v1, iv v2, iv v3, iv v4, iv oi, iv ri, rv xo, rv xr, rv a560, rv a526, .unset, .unset, .unset] [(.ref xr), (.ref xo), (.ref a560), (.ref a609), (.ref a609)]))) (fun t_ kont => XS.aload X603.here hx rfl (hb hby at_117) rfl rfl kont) ?_
        obtain ⟨_, _, ⟨T621, L622, k623, n624⟩, -, X625, hS2_, hgr_, ⟨Lc626, hQ627, l628, y629, z630⟩, st631⟩ := X603.specialBackS hx (y := (⟨"com/example/portcullis/portcullis/policy/WebDecision", "<init>", "(Ljava/lang/String;Lcom/example/portcullis/portcullis/policy/WebDecision$Outcome;Lcom/example/portcullis/portcullis/policy/WebDecision$Reason;)V"⟩ : MethodName)) rfl hown (mvT hZ (hw _ (List.mem_of_getElem? (i := 17) rfl))) (mvT hZ (hw _ (List.mem_of_getElem? (i := 18) rfl))) (mvT hZ (hw _ (List.mem_of_getElem? (i := 19) rfl))) (by decide) (backOfS (W := 1) (rm3R l Z a0 hw [] a609 a560 xo xr h602 n0 Z612 O614 A606 ag611 F615 F616 F617) hZ (hw _ (List.mem_of_getElem? (i := 19) rfl)) (hw _ (List.mem_of_getElem? (i := 16) rfl)) (by decide) (by decide)) (g := (mkF m 119 #[iv v0, iv v1, iv v2, iv v3, iv v4, iv oi, iv ri, rv xo, rv xr, rv a560, rv a526, .unset, .unset, .unset] [(.ref xr), (.ref xo), (.ref a560), (.ref a609), (.ref a609)])) rfl (by rw [hml]; rfl) (Steps.refl _) (a := a609) (argsL := [(.ref a560), (.ref xo), (.ref xr)]) (rest := [(.ref a609)]) (lenOf (by decide +kernel : parseMethodDescriptor "(Ljava/lang/String;Lcom/example/portcullis/portcullis/policy/WebDecision$Outcome;Lcom/example/portcullis/portcullis/policy/WebDecision$Reason;)V" = some ⟨[(.object "java/lang/String"), (.object "com/example/portcullis/portcullis/policy/WebDecision$Outcome"), (.object "com/example/portcullis/portcullis/policy/WebDecision$Reason")], none⟩) rfl) rfl (by show 2 * 0 + _ ≤ _; exact Nat.le_of_eq rfl) (hb hby at_119) (fun _ _ => ⟨rfl, e604, (by decide : 4 + 4 ≤ _), (by decide : 9 + 60 ≤ _)⟩)
        dsimp only [Pt.U, Pt.locs, Pt.cells, Pt.slots] at X625 l628 y629 z630 st631 hQ627 hS2_ hgr_
        subst l628 y629 z630
        obtain ⟨X632, hS, hZ, hown⟩ := rebS hS (by rw [show T601.heap = h602 from e604]; exact hk613) X625 hS2_ hgr_ hZ hown
        obtain ⟨rfl, N633, O620, K618, g619⟩ := hQ627
        have N635 := Fr.app N595 N633
        have E636 := (A606.keep K618)
        have Z637 := Nat.le_trans Z612 K618.1
        have O638 := O614.keep K618 (allS ag611 all0)
        refine own_tr (S' := (T621.setTop (mkF m 122 #[iv v0, iv v1, iv v2, iv v3, iv v4, iv oi, iv ri, rv xo, rv xr, rv a560, rv a526, .unset, .unset, .unset] [(.ref a609)]))) st631 ?_
        refine own_bk (S' := (T621.setTop (mkF m 124 #[iv v0, iv v1, iv v2, iv v3, iv v4, iv oi, iv ri, rv xo, rv xr, rv a560, rv a609, .unset, .unset, .unset] []))) (fun t_ kont => XS.astore X632.here hx rfl (hb hby at_122) rfl rfl (l' := #[iv v0, iv v1, iv v2, iv v3, iv v4, iv oi, iv ri, rv xo, rv xr, rv a560, rv a609, .unset, .unset, .unset]) rfl kont) ?_
        refine own_bk (S' := (T621.setTop (mkF m 126 #[iv v0, iv v1, iv v2, iv v3, iv v4, iv oi, iv ri, rv xo, rv xr, rv a560, rv a609, .unset, .unset, .unset] [(.ref a609)]))) (fun t_ kont => XS.aload X632.here hx rfl (hb hby at_124) rfl rfl kont) ?_
        obtain ⟨cqq650, kqq650, q650a, q650b, q650c⟩ := isOf hZ rfl E636
        obtain ⟨_, _, ⟨T639, L640, k641, n642⟩, -, X643, ⟨Lc644, hQ645, l646, y647, z648⟩, st649⟩ := X632.virtualBack hx (y := (⟨"com/example/portcullis/portcullis/policy/WebDecision", "allowed", "()Z"⟩ : MethodName)) (z := (⟨"com/example/portcullis/portcullis/policy/WebDecision", "allowed", "()Z"⟩ : MethodName)) hown (mvT hZ (hw _ (List.mem_of_getElem? (i := 47) rfl))) (mvT hZ (hw _ (List.mem_of_getElem? (i := 48) rfl))) (notFace_of_selects (args := #[]) (mvT hZ (hw _ (List.mem_of_getElem? (i := 50) rfl)))) (mvT hZ (hw _ (List.mem_of_getElem? (i := 50) rfl))) (mvT hZ (hw _ (List.mem_of_getElem? (i := 49) rfl))) (by decide) (backOf (W := 0) (rm7 l Z a0 hw [] a609 xo r_ALLOW (0 : Int32) T621.heap n0 Z637 g619 (G_ALLOW.1.ext O620.2) (by simp [hne])) hZ (hw _ (List.mem_of_getElem? (i := 51) rfl)) (hw _ (List.mem_of_getElem? (i := 16) rfl)) (by decide) (by decide)) q650a q650c (g := (mkF m 126 #[iv v0, iv v1, iv v2, iv v3, iv v4, iv oi, iv ri, rv xo, rv xr, rv a560, rv a609, .unset, .unset, .unset] [(.ref a609)])) rfl (by rw [hml]; rfl) (Steps.refl _) (argsL := []) (rest := []) (lenOf (by decide +kernel : parseMethodDescriptor "()Z" = some ⟨[], some .boolean⟩) rfl) rfl (by show 2 * 0 + _ ≤ _; exact Nat.le_of_eq rfl) (hb hby at_126) (fun _ _ => ⟨rfl, rfl, (by decide : 8 + 0 ≤ _), (by decide : 69 + 0 ≤ _)⟩)
        dsimp only [Pt.U, Pt.locs, Pt.cells, Pt.slots] at X643 l646 y647 z648 st649 hQ645
        subst l646 y647 z648
        obtain ⟨rfl, N651, e652⟩ := hQ645
        have N653 := Fr.app N635 N651
        refine own_tr (S' := (T639.setTop (mkF m 129 #[iv v0, iv v1, iv v2, iv v3, iv v4, iv oi, iv ri, rv xo, rv xr, rv a560, rv a609, .unset, .unset, .unset] [(.int (0 : Int32))]))) st649 ?_
        refine own_bk (S' := (T639.setTop (mkF m 131 #[iv v0, iv v1, iv v2, iv v3, iv v4, iv oi, iv ri, rv xo, rv xr, rv a560, rv a609, iv (0 : Int32), .unset, .unset] []))) (fun t_ kont => XS.istore X643.here hx rfl (hb hby at_129) rfl (l' := #[iv v0, iv v1, iv v2, iv v3, iv v4, iv oi, iv ri, rv xo, rv xr, rv a560, rv a609, iv (0 : Int32), .unset, .unset]) rfl kont) ?_
        refine own_bk (S' := (T639.setTop (mkF m 133 #[iv v0, iv v1, iv v2, iv v3, iv v4, iv oi, iv ri, rv xo, rv xr, rv a560, rv a609, iv (0 : Int32), .unset, .unset] [(.ref a609)]))) (fun t_ kont => XS.aload X643.here hx rfl (hb hby at_131) rfl rfl kont) ?_
        obtain ⟨cqq665, kqq665, q665a, q665b, q665c⟩ := isOf hZ e652 E636
        obtain ⟨_, _, ⟨T654, L655, k656, n657⟩, -, X658, ⟨Lc659, hQ660, l661, y662, z663⟩, st664⟩ := X643.virtualBack hx (y := (⟨"com/example/portcullis/portcullis/policy/WebDecision", "allowed", "()Z"⟩ : MethodName)) (z := (⟨"com/example/portcullis/portcullis/policy/WebDecision", "allowed", "()Z"⟩ : MethodName)) hown (mvT hZ (hw _ (List.mem_of_getElem? (i := 47) rfl))) (mvT hZ (hw _ (List.mem_of_getElem? (i := 48) rfl))) (notFace_of_selects (args := #[]) (mvT hZ (hw _ (List.mem_of_getElem? (i := 50) rfl)))) (mvT hZ (hw _ (List.mem_of_getElem? (i := 50) rfl))) (mvT hZ (hw _ (List.mem_of_getElem? (i := 49) rfl))) (by decide) (backOf (W := 0) (rm7 l Z a0 hw [] a609 xo r_ALLOW (0 : Int32) T621.heap n0 Z637 g619 (G_ALLOW.1.ext O620.2) (by simp [hne])) hZ (hw _ (List.mem_of_getElem? (i := 51) rfl)) (hw _ (List.mem_of_getElem? (i := 16) rfl)) (by decide) (by decide)) q665a q665c (g := (mkF m 133 #[iv v0, iv v1, iv v2, iv v3, iv v4, iv oi, iv ri, rv xo, rv xr, rv a560, rv a609, iv (0 : Int32), .unset, .unset] [(.ref a609)])) rfl (by rw [hml]; rfl) (Steps.refl _) (argsL := []) (rest := []) (lenOf (by decide +kernel : parseMethodDescriptor "()Z" = some ⟨[], some .boolean⟩) rfl) rfl (by show 2 * 0 + _ ≤ _; exact Nat.le_of_eq rfl) (hb hby at_133) (fun _ _ => ⟨rfl, e652, (by decide : 8 + 0 ≤ _), (by decide : 69 + 0 ≤ _)⟩)
        dsimp only [Pt.U, Pt.locs, Pt.cells, Pt.slots] at X658 l661 y662 z663 st664 hQ660
        subst l661 y662 z663
        obtain ⟨rfl, N666, e667⟩ := hQ660
        have N668 := Fr.app N653 N666
        refine own_tr (S' := (T654.setTop (mkF m 136 #[iv v0, iv v1, iv v2, iv v3, iv v4, iv oi, iv ri, rv xo, rv xr, rv a560, rv a609, iv (0 : Int32), .unset, .unset] [(.int (0 : Int32))]))) st664 ?_
        refine own_bk (S' := (T654.setTop (mkF m 138 #[iv v0, iv v1, iv v2, iv v3, iv v4, iv oi, iv ri, rv xo, rv xr, rv a560, rv a609, iv (0 : Int32), iv (0 : Int32), .unset] []))) (fun t_ kont => XS.istore X658.here hx rfl (hb hby at_136) rfl (l' := #[iv v0, iv v1, iv v2, iv v3, iv v4, iv oi, iv ri, rv xo, rv xr, rv a560, rv a609, iv (0 : Int32), iv (0 : Int32), .unset]) rfl kont) ?_
        refine own_bk (S' := (T654.setTop (mkF m 140 #[iv v0, iv v1, iv v2, iv v3, iv v4, iv oi, iv ri, rv xo, rv xr, rv a560, rv a609, iv (0 : Int32), iv (0 : Int32), .unset] [(.int oi)]))) (fun t_ kont => XS.iload X658.here hx rfl (hb hby at_138) rfl kont) ?_
        refine own_bk (S' := (T654.setTop (mkF m 147 #[iv v0, iv v1, iv v2, iv v3, iv v4, iv oi, iv ri, rv xo, rv xr, rv a560, rv a609, iv (0 : Int32), iv (0 : Int32), .unset] []))) (fun t_ kont => XS.ifYes X658.here hx rfl (pc0 := 140) (pc' := 147) rfl (hb hby at_140) rfl ((if0 _ _).trans (feq (hc1)).2) (by decide) (by decide) kont) ?_
        refine own_bk (S' := (T654.setTop (mkF m 148 #[iv v0, iv v1, iv v2, iv v3, iv v4, iv oi, iv ri, rv xo, rv xr, rv a560, rv a609, iv (0 : Int32), iv (0 : Int32), .unset] [(.int (0 : Int32))]))) (fun t_ kont => XS.iconst X658.here hx rfl (hb hby at_147) kont) ?_
        refine own_bk (S' := (T654.setTop (mkF m 150 #[iv v0, iv v1, iv v2, iv v3, iv v4, iv oi, iv ri, rv xo, rv xr, rv a560, rv a609, iv (0 : Int32), iv (0 : Int32), iv (0 : Int32)] []))) (fun t_ kont => XS.istore X658.here hx rfl (hb hby at_148) rfl (l' := #[iv v0, iv v1, iv v2, iv v3, iv v4, iv oi, iv ri, rv xo, rv xr, rv a560, rv a609, iv (0 : Int32), iv (0 : Int32), iv (0 : Int32)]) rfl kont) ?_
        refine own_bk (S' := (T654.setTop (mkF m 152 #[iv v0, iv v1, iv v2, iv v3, iv v4, iv oi, iv ri, rv xo, rv xr, rv a560, rv a609, iv (0 : Int32), iv (0 : Int32), iv (0 : Int32)] [(.int (0 : Int32))]))) (fun t_ kont => XS.iload X658.here hx rfl (hb hby at_150) rfl kont) ?_
        refine own_bk (S' := (T654.setTop (mkF m 154 #[iv v0, iv v1, iv v2, iv v3, iv v4, iv oi, iv ri, rv xo, rv xr, rv a560, rv a609, iv (0 : Int32), iv (0 : Int32), iv (0 : Int32)] [(.int (0 : Int32)), (.int (0 : Int32))]))) (fun t_ kont => XS.iload X658.here hx rfl (hb hby at_152) rfl kont) ?_
        refine own_bk (S' := (T654.setTop (mkF m 157 #[iv v0, iv v1, iv v2, iv v3, iv v4, iv oi, iv ri, rv xo, rv xr, rv a560, rv a609, iv (0 : Int32), iv (0 : Int32), iv (0 : Int32)] []))) (fun t_ kont => XS.icmpNo X658.here hx rfl (hb hby at_154) rfl (teq (by decide : ((0 : Int32)) = ((0 : Int32)))).2 kont) ?_
        refine own_bk (S' := (T654.setTop (mkF m 159 #[iv v0, iv v1, iv v2, iv v3, iv v4, iv oi, iv ri, rv xo, rv xr, rv a560, rv a609, iv (0 : Int32), iv (0 : Int32), iv (0 : Int32)] [(.int (0 : Int32))]))) (fun t_ kont => XS.iload X658.here hx rfl (hb hby at_157) rfl kont) ?_
        refine own_bk (S' := (T654.setTop (mkF m 161 #[iv v0, iv v1, iv v2, iv v3, iv v4, iv oi, iv ri, rv xo, rv xr, rv a560, rv a609, iv (0 : Int32), iv (0 : Int32), iv (0 : Int32)] [(.int (0 : Int32)), (.int (0 : Int32))]))) (fun t_ kont => XS.iload X658.here hx rfl (hb hby at_159) rfl kont) ?_
        refine own_bk (S' := (T654.setTop (mkF m 164 #[iv v0, iv v1, iv v2, iv v3, iv v4, iv oi, iv ri, rv xo, rv xr, rv a560, rv a609, iv (0 : Int32), iv (0 : Int32), iv (0 : Int32)] []))) (fun t_ kont => XS.icmpNo X658.here hx rfl (hb hby at_161) rfl (teq (by decide : ((0 : Int32)) = ((0 : Int32)))).2 kont) ?_
        refine own_bk (S' := (T654.setTop (mkF m 165 #[iv v0, iv v1, iv v2, iv v3, iv v4, iv oi, iv ri, rv xo, rv xr, rv a560, rv a609, iv (0 : Int32), iv (0 : Int32), iv (0 : Int32)] [(.int (1 : Int32))]))) (fun t_ kont => XS.iconst X658.here hx rfl (hb hby at_164) kont) ?_
        refine own_bk (S' := (T654.setTop (mkF m 169 #[iv v0, iv v1, iv v2, iv v3, iv v4, iv oi, iv ri, rv xo, rv xr, rv a560, rv a609, iv (0 : Int32), iv (0 : Int32), iv (0 : Int32)] [(.int (1 : Int32))]))) (fun t_ kont => XS.goto X658.here hx rfl (pc0 := 165) (pc' := 169) rfl (hb hby at_165) (by decide) (by decide) kont) ?_
        exact own_retNW hS X658 (by rw [show T654.heap = T621.heap from e667]; exact (Nat.le_refl _)) hx hlk (t := .boolean) (w := (1 : Int32)) Bd.returns (by simp) (hb hby at_169) rfl ⟨rfl, N668⟩ (by decide) (by decide)
      · refine own_bk (S' := (T434.setTop (mkF m 43 #[iv v0, iv v1, iv v2, iv v3, iv v4, iv oi, iv ri, rv xo, rv xr, .val .null, .unset, .unset, .unset, .unset] []))) (fun t_ kont => XS.ifNo X438.here hx rfl (hb hby at_40) rfl ((if0 _ _).trans (feq (hc517)).1) kont) ?_
        refine own_bk (S' := (T434.setTop (mkF m 44 #[iv v0, iv v1, iv v2, iv v3, iv v4, iv oi, iv ri, rv xo, rv xr, .val .null, .unset, .unset, .unset, .unset] [(.int (2 : Int32))]))) (fun t_ kont => XS.iconst X438.here hx rfl (hb hby at_43) kont) ?_
        obtain ⟨T669, h670, k671, X672, e673, E674, A675, st676⟩ := newP X438 hx hZ (hw _ (List.mem_of_getElem? (i := 59) rfl)) e446 (g := (mkF m 44 #[iv v0, iv v1, iv v2, iv v3, iv v4, iv oi, iv ri, rv xo, rv xr, .val .null, .unset, .unset, .unset, .unset] [(.int (2 : Int32))])) rfl (hb hby at_44) rfl (by decide : ¬ ((2 : Int32) < (0 : Int32))) (cap := 2) (by decide : (2 : Int32).toNatClampNeg ≤ 2) (by decide) (by decide) (by decide)
        obtain ⟨a677, g678⟩ : ∃ z, z = h0.size := ⟨_, rfl⟩
        rw [← g678] at A675 st676
        have ag680 : n0 ≤ a677 := Nat.le_trans Z0 (Nat.le_of_eq g678.symm)
        have Z681 := Nat.le_trans Z0 E674.1
        have hk682 := Nat.le_trans hk0 E674.1
        have O683 := O.ext E674
        have V679 : Arv Z h670 a677 k671 .char (2 : Int32) [] (.int (0 : Int32)) := (Arv.new A675 (by decide : ¬ ((2 : Int32) < (0 : Int32))))
        have V684 : Arv Z h670 a677 k671 .char (2 : Int32) [(.int (0 : Int32)), (.int (0 : Int32))] (.int (0 : Int32)) := (V679.pad (pad_rep [] (.int (0 : Int32)) 2))
        refine own_bk (S' := (T669.setTop (mkF m 46 #[iv v0, iv v1, iv v2, iv v3, iv v4, iv oi, iv ri, rv xo, rv xr, .val .null, .unset, .unset, .unset, .unset] [(.ref a677)]))) st676 ?_
        refine own_bk (S' := (T669.setTop (mkF m 48 #[iv v0, iv v1, iv v2, iv v3, iv v4, iv oi, iv ri, rv xo, rv xr, .val .null, rv a677, .unset, .unset, .unset] []))) (fun t_ kont => XS.astore X672.here hx rfl (hb hby at_46) rfl rfl (l' := #[iv v0, iv v1, iv v2, iv v3, iv v4, iv oi, iv ri, rv xo, rv xr, .val .null, rv a677, .unset, .unset, .unset]) rfl kont) ?_
        refine own_bk (S' := (T669.setTop (mkF m 50 #[iv v0, iv v1, iv v2, iv v3, iv v4, iv oi, iv ri, rv xo, rv xr, .val .null, rv a677, .unset, .unset, .unset] [(.ref a677)]))) (fun t_ kont => XS.aload X672.here hx rfl (hb hby at_48) rfl rfl kont) ?_
        refine own_bk (S' := (T669.setTop (mkF m 51 #[iv v0, iv v1, iv v2, iv v3, iv v4, iv oi, iv ri, rv xo, rv xr, .val .null, rv a677, .unset, .unset, .unset] [(.int (0 : Int32)), (.ref a677)]))) (fun t_ kont => XS.iconst X672.here hx rfl (hb hby at_50) kont) ?_
        refine own_bk (S' := (T669.setTop (mkF m 52 #[iv v0, iv v1, iv v2, iv v3, iv v4, iv oi, iv ri, rv xo, rv xr, .val .null, rv a677, .unset, .unset, .unset] [(.int v3), (.int (0 : Int32)), (.ref a677)]))) (fun t_ kont => XS.iloadN X672.here hx rfl (hb hby at_51) rfl kont) ?_
        refine own_bk (S' := (T669.setTop (mkF m 55 #[iv v0, iv v1, iv v2, iv v3, iv v4, iv oi, iv ri, rv xo, rv xr, .val .null, rv a677, .unset, .unset, .unset] [(.int (255 : Int32)), (.int v3), (.int (0 : Int32)), (.ref a677)]))) (fun t_ kont => XS.sipush X672.here hx rfl (hb hby at_52) kont) ?_
        refine own_bk (S' := (T669.setTop (mkF m 56 #[iv v0, iv v1, iv v2, iv v3, iv v4, iv oi, iv ri, rv xo, rv xr, .val .null, rv a677, .unset, .unset, .unset] [(.int (v3 &&& (255 : Int32))), (.int (0 : Int32)), (.ref a677)]))) (fun t_ kont => XS.iand X672.here hx rfl (hb hby at_55) rfl kont) ?_
        refine own_bk (S' := (T669.setTop (mkF m 57 #[iv v0, iv v1, iv v2, iv v3, iv v4, iv oi, iv ri, rv xo, rv xr, .val .null, rv a677, .unset, .unset, .unset] [(.int ((v3 &&& (255 : Int32)).toUInt32.toUInt16.toUInt32.toInt32)), (.int (0 : Int32)), (.ref a677)]))) (fun t_ kont => XS.i2c X672.here hx rfl (hb hby at_56) rfl kont) ?_
        obtain ⟨c685, A686, q687, S688, M689, H690, U691⟩ := id V684
        obtain ⟨T692, h693, X694, e695, W696, st697⟩ := stC X672 hx hZ e673 A686 (j := (0 : Int32)) (inb_of S688 ⟨(by decide : ¬ ((0 : Int32) < (0 : Int32))), (by decide : (0 : Int32) < (2 : Int32))⟩) (g := (mkF m 57 #[iv v0, iv v1, iv v2, iv v3, iv v4, iv oi, iv ri, rv xo, rv xr, .val .null, rv a677, .unset, .unset, .unset] [(.int ((v3 &&& (255 : Int32)).toUInt32.toUInt16.toUInt32.toInt32)), (.int (0 : Int32)), (.ref a677)])) rfl rfl (hb hby at_57)
        have N698 := Fr.snoc X694 N447 ag680
        have Z699 := Nat.le_trans Z681 (Keep.of_wr W696).1
        have hk700 := Nat.le_trans hk682 (Keep.of_wr W696).1
        have O701 := O683.wr W696 ag680
        have V702 : Arv Z h693 a677 k671 .char (2 : Int32) [(.int (nar .char ((v3 &&& (255 : Int32)).toUInt32.toUInt16.toUInt32.toInt32))), (.int (0 : Int32))] (.int (0 : Int32)) := (Arv.set A686 q687 S688 M689 H690 U691 (fits_nar_char _) W696 0 rfl (Nat.le_of_ble_eq_true rfl))
        refine own_bk (S' := (T692.setTop (mkF m 58 #[iv v0, iv v1, iv v2, iv v3, iv v4, iv oi, iv ri, rv xo, rv xr, .val .null, rv a677, .unset, .unset, .unset] []))) st697 ?_
        refine own_bk (S' := (T692.setTop (mkF m 60 #[iv v0, iv v1, iv v2, iv v3, iv v4, iv oi, iv ri, rv xo, rv xr, .val .null, rv a677, .unset, .unset, .unset] [(.ref a677)]))) (fun t_ kont => XS.aload X694.here hx rfl (hb hby at_58) rfl rfl kont) ?_
        refine own_bk (S' := (T692.setTop (mkF m 61 #[iv v0, iv v1, iv v2, iv v3, iv v4, iv oi, iv ri, rv xo, rv xr, .val .null, rv a677, .unset, .unset, .unset] [(.int (1 : Int32)), (.ref a677)]))) (fun t_ kont => XS.iconst X694.here hx rfl (hb hby at_60) kont) ?_
        refine own_bk (S' := (T692.setTop (mkF m 63 #[iv v0, iv v1, iv v2, iv v3, iv v4, iv oi, iv ri, rv xo, rv xr, .val .null, rv a677, .unset, .unset, .unset] [(.int v4), (.int (1 : Int32)), (.ref a677)]))) (fun t_ kont => XS.iload X694.here hx rfl (hb hby at_61) rfl kont) ?_
        refine own_bk (S' := (T692.setTop (mkF m 66 #[iv v0, iv v1, iv v2, iv v3, iv v4, iv oi, iv ri, rv xo, rv xr, .val .null, rv a677, .unset, .unset, .unset] [(.int (255 : Int32)), (.int v4), (.int (1 : Int32)), (.ref a677)]))) (fun t_ kont => XS.sipush X694.here hx rfl (hb hby at_63) kont) ?_
        refine own_bk (S' := (T692.setTop (mkF m 67 #[iv v0, iv v1, iv v2, iv v3, iv v4, iv oi, iv ri, rv xo, rv xr, .val .null, rv a677, .unset, .unset, .unset] [(.int (v4 &&& (255 : Int32))), (.int (1 : Int32)), (.ref a677)]))) (fun t_ kont => XS.iand X694.here hx rfl (hb hby at_66) rfl kont) ?_
        refine own_bk (S' := (T692.setTop (mkF m 68 #[iv v0, iv v1, iv v2, iv v3, iv v4, iv oi, iv ri, rv xo, rv xr, .val .null, rv a677, .unset, .unset, .unset] [(.int ((v4 &&& (255 : Int32)).toUInt32.toUInt16.toUInt32.toInt32)), (.int (1 : Int32)), (.ref a677)]))) (fun t_ kont => XS.i2c X694.here hx rfl (hb hby at_67) rfl kont) ?_
        obtain ⟨c703, A704, q705, S706, M707, H708, U709⟩ := id V702
        obtain ⟨T710, h711, X712, e713, W714, st715⟩ := stC X694 hx hZ e695 A704 (j := (1 : Int32)) (inb_of S706 ⟨(by decide : ¬ ((1 : Int32) < (0 : Int32))), (by decide : (1 : Int32) < (2 : Int32))⟩) (g := (mkF m 68 #[iv v0, iv v1, iv v2, iv v3, iv v4, iv oi, iv ri, rv xo, rv xr, .val .null, rv a677, .unset, .unset, .unset] [(.int ((v4 &&& (255 : Int32)).toUInt32.toUInt16.toUInt32.toInt32)), (.int (1 : Int32)), (.ref a677)])) rfl rfl (hb hby at_68)
        have N716 := Fr.snoc X712 N698 ag680
        have Z717 := Nat.le_trans Z699 (Keep.of_wr W714).1
        have hk718 := Nat.le_trans hk700 (Keep.of_wr W714).1
        have O719 := O701.wr W714 ag680
        have V720 : Arv Z h711 a677 k671 .char (2 : Int32) [(.int (nar .char ((v3 &&& (255 : Int32)).toUInt32.toUInt16.toUInt32.toInt32))), (.int (nar .char ((v4 &&& (255 : Int32)).toUInt32.toUInt16.toUInt32.toInt32)))] (.int (0 : Int32)) := (Arv.set A704 q705 S706 M707 H708 U709 (fits_nar_char _) W714 1 rfl (Nat.le_of_ble_eq_true rfl))
        refine own_bk (S' := (T710.setTop (mkF m 69 #[iv v0, iv v1, iv v2, iv v3, iv v4, iv oi, iv ri, rv xo, rv xr, .val .null, rv a677, .unset, .unset, .unset] []))) st715 ?_
        obtain ⟨T721, h722, X723, e724, E725, A726, D727, -, st728⟩ := newO X712 hx hZ hown (hw _ (List.mem_of_getElem? (i := 60) rfl)) (hw _ (List.mem_of_getElem? (i := 30) rfl)) (hw _ (List.mem_of_getElem? (i := 29) rfl)) e713 (g := (mkF m 69 #[iv v0, iv v1, iv v2, iv v3, iv v4, iv oi, iv ri, rv xo, rv xr, .val .null, rv a677, .unset, .unset, .unset] [])) rfl (hb hby at_69) (by decide) (by decide)
        obtain ⟨a729, g730⟩ : ∃ z, z = h711.size := ⟨_, rfl⟩
        rw [← g730] at A726 D727 st728
        have ne731 : a677 ≠ a729 := Nat.ne_of_lt (Nat.lt_of_lt_of_le V720.lt (Nat.le_of_eq g730.symm))
        have ag732 : n0 ≤ a729 := Nat.le_trans Z717 (Nat.le_of_eq g730.symm)
        have V733 := (V720.ext E725)
        have Z734 := Nat.le_trans Z717 E725.1
        have hk735 := Nat.le_trans hk718 E725.1
        have O736 := O719.ext E725
        have F737 : Fld Z h722 a729 "java/lang/String" "value" "[B" .null := (D727 (Or.inr (hw _ (List.mem_of_getElem? (i := 32) rfl))) (ty := (.array .byte)) (by decide +kernel))
        have F738 : Fld Z h722 a729 "java/lang/String" "coder" "B" (.int (0 : Int32)) := (D727 (Or.inr (hw _ (List.mem_of_getElem? (i := 33) rfl))) (ty := .byte) (by decide +kernel))
        refine own_bk (S' := (T721.setTop (mkF m 72 #[iv v0, iv v1, iv v2, iv v3, iv v4, iv oi, iv ri, rv xo, rv xr, .val .null, rv a677, .unset, .unset, .unset] [(.ref a729)]))) st728 ?_
        refine own_bk (S' := (T721.setTop (mkF m 73 #[iv v0, iv v1, iv v2, iv v3, iv v4, iv oi, iv ri, rv xo, rv xr, .val .null, rv a677, .unset, .unset, .unset] [(.ref a729), (.ref a729)]))) (fun t_ kont => XS.dup X723.here hx rfl (hb hby at_72) rfl rfl kont) ?_
        refine own_bk (S' := (T721.setTop (mkF m 75 #[iv v0, iv v1, iv v2, iv v3, iv v4, iv oi, iv ri, rv xo, rv xr, .val .null, rv a677, .unset, .unset, .unset] [(.ref a677), (.ref a729), (.ref a729)]))) (fun t_ kont => XS.aload X723.here hx rfl (hb hby at_73) rfl rfl kont) ?_
        have hp739 : ∀ c ∈ ([(nar .char ((v3 &&& (255 : Int32)).toUInt32.toUInt16.toUInt32.toInt32)), (nar .char ((v4 &&& (255 : Int32)).toUInt32.toUInt16.toUInt32.toInt32))] : List Int32), ¬ c < 0 ∧ ¬ (255 : Int32) < c := by
          intro c hc; simp only [List.mem_cons, List.not_mem_nil, or_false] at hc; rcases hc with rfl | rfl
          · exact own_n255 v3
          · exact own_n255 v4
        have hws740 : ∀ d ∈ StrChars.Road.words, d.before a0 Z = true := fun d hd => hw d ((by decide +kernel : ∀ d ∈ StrChars.Road.words, d ∈ tables_1) d hd)
        obtain ⟨_, _, ⟨T751, L752, k753, n754⟩, -, X755, ⟨Lc756, hQ757, l758, y759, z760⟩, st761⟩ := X723.specialBack hx (y := (⟨"java/lang/String", "<init>", "([C)V"⟩ : MethodName)) rfl hown (mvT hZ (hw _ (List.mem_of_getElem? (i := 61) rfl))) (mvT hZ (hw _ (List.mem_of_getElem? (i := 62) rfl))) (mvT hZ (hw _ (List.mem_of_getElem? (i := 63) rfl))) (by decide) (StrChars.Road.backV (W := 1) hZ hws740 (kI := 4) (hw _ (List.mem_of_getElem? (i := 30) rfl)) (cs := ([(nar .char ((v3 &&& (255 : Int32)).toUInt32.toUInt16.toUInt32.toInt32)), (nar .char ((v4 &&& (255 : Int32)).toUInt32.toUInt16.toUInt32.toInt32))] : List Int32)) (bs := (([(nar .char ((v3 &&& (255 : Int32)).toUInt32.toUInt16.toUInt32.toInt32)), (nar .char ((v4 &&& (255 : Int32)).toUInt32.toUInt16.toUInt32.toInt32))] : List Int32)).map (fun c => c.toInt8.toInt32)) (n := 2) ag732 Z734 A726 F737 F738 V733 (SC.ext O736.2) hcz rfl rfl (by decide) (by decide) hp739 rfl (by decide) (by decide)) (g := (mkF m 75 #[iv v0, iv v1, iv v2, iv v3, iv v4, iv oi, iv ri, rv xo, rv xr, .val .null, rv a677, .unset, .unset, .unset] [(.ref a677), (.ref a729), (.ref a729)])) rfl (by rw [hml]; rfl) (Steps.refl _) (a := a729) (argsL := [(.ref a677)]) (rest := [(.ref a729)]) (lenOf (by decide +kernel : parseMethodDescriptor "([C)V" = some ⟨[(.array .char)], none⟩) rfl) rfl (by show 2 * 0 + _ ≤ _; exact Nat.le_of_eq rfl) (hb hby at_75) (fun _ _ => ⟨rfl, e724, (by decide : 2 + 1 ≤ _), (by decide : 6 + 2 ≤ _)⟩)
        dsimp only [Pt.U, Pt.locs, Pt.cells, Pt.slots] at X755 l758 y759 z760 st761 hQ757
        subst l758 y759 z760
        obtain ⟨rfl, N762, K741, g749, g744, t742, kb743, u746, u747, u748, g745, V750⟩ := hQ757
        have N764 := Fr.app N716 N762
        have V765 := (V733.keep K741 (ninS ne731 nin0))
        have E766 := (A726.keep K741)
        have Z767 := Nat.le_trans Z734 K741.1
        have hk768 := Nat.le_trans hk735 K741.1
        have O769 := O736.keep K741 (allS ag732 all0)
        refine own_tr (S' := (T751.setTop (mkF m 78 #[iv v0, iv v1, iv v2, iv v3, iv v4, iv oi, iv ri, rv xo, rv xr, .val .null, rv a677, .unset, .unset, .unset] [(.ref a729)]))) st761 ?_
        refine own_bk (S' := (T751.setTop (mkF m 80 #[iv v0, iv v1, iv v2, iv v3, iv v4, iv oi, iv ri, rv xo, rv xr, rv a729, rv a677, .unset, .unset, .unset] []))) (fun t_ kont => XS.astore X755.here hx rfl (hb hby at_78) rfl rfl (l' := #[iv v0, iv v1, iv v2, iv v3, iv v4, iv oi, iv ri, rv xo, rv xr, rv a729, rv a677, .unset, .unset, .unset]) rfl kont) ?_
        refine own_bk (S' := (T751.setTop (mkF m 109 #[iv v0, iv v1, iv v2, iv v3, iv v4, iv oi, iv ri, rv xo, rv xr, rv a729, rv a677, .unset, .unset, .unset] []))) (fun t_ kont => XS.goto X755.here hx rfl (pc0 := 80) (pc' := 109) rfl (hb hby at_80) (by decide) (by decide) kont) ?_
        obtain ⟨T770, h771, X772, e773, E774, A775, D776, -, st777⟩ := newO X755 hx hZ hown (hw _ (List.mem_of_getElem? (i := 14) rfl)) (hw _ (List.mem_of_getElem? (i := 15) rfl)) (hw _ (List.mem_of_getElem? (i := 16) rfl)) rfl (g := (mkF m 109 #[iv v0, iv v1, iv v2, iv v3, iv v4, iv oi, iv ri, rv xo, rv xr, rv a729, rv a677, .unset, .unset, .unset] [])) rfl (hb hby at_109) (by decide) (by decide)
        obtain ⟨a778, g779⟩ : ∃ z, z = T751.heap.size := ⟨_, rfl⟩
        rw [← g779] at A775 D776 st777
        have ag780 : n0 ≤ a778 := Nat.le_trans Z767 (Nat.le_of_eq g779.symm)
        have Z781 := Nat.le_trans Z767 E774.1
        have hk782 := Nat.le_trans hk768 E774.1
        have O783 := O769.ext E774
        have F784 : Fld Z h771 a778 "com/example/portcullis/portcullis/policy/WebDecision" "pattern" "Ljava/lang/String;" .null := (D776 (Or.inr (hw _ (List.mem_of_getElem? (i := 42) rfl))) (ty := (.object "java/lang/String")) (by decide +kernel))
        have F785 : Fld Z h771 a778 "com/example/portcullis/portcullis/policy/WebDecision" "outcome" "Lcom/example/portcullis/portcullis/policy/WebDecision$Outcome;" .null := (D776 (Or.inr (hw _ (List.mem_of_getElem? (i := 44) rfl))) (ty := (.object "com/example/portcullis/portcullis/policy/WebDecision$Outcome")) (by decide +kernel))
        have F786 : Fld Z h771 a778 "com/example/portcullis/portcullis/policy/WebDecision" "reason" "Lcom/example/portcullis/portcullis/policy/WebDecision$Reason;" .null := (D776 (Or.inr (hw _ (List.mem_of_getElem? (i := 46) rfl))) (ty := (.object "com/example/portcullis/portcullis/policy/WebDecision$Reason")) (by decide +kernel))
        refine own_bk (S' := (T770.setTop (mkF m 112 #[iv v0, iv v1, iv v2, iv v3, iv v4, iv oi, iv ri, rv xo, rv xr, rv a729, rv a677, .unset, .unset, .unset] [(.ref a778)]))) st777 ?_
        refine own_bk (S' := (T770.setTop (mkF m 113 #[iv v0, iv v1, iv v2, iv v3, iv v4, iv oi, iv ri, rv xo, rv xr, rv a729, rv a677, .unset, .unset, .unset] [(.ref a778), (.ref a778)]))) (fun t_ kont => XS.dup X772.here hx rfl (hb hby at_112) rfl rfl kont) ?_
        refine own_bk (S' := (T770.setTop (mkF m 115 #[iv v0, iv v1, iv v2, iv v3, iv v4, iv oi, iv ri, rv xo, rv xr, rv a729, rv a677, .unset, .unset, .unset] [(.ref a729), (.ref a778), (.ref a778)]))) (fun t_ kont => XS.aload X772.here hx rfl (hb hby at_113) rfl rfl kont) ?_
        refine own_bk (S' := (T770.setTop (mkF m 117 #[iv v0, iv v1, iv v2, iv v3, iv v4, iv oi, iv ri, rv xo, rv xr, rv a729, rv a677, .unset, .unset, .unset] [(.ref xo), (.ref a729), (.ref a778), (.ref a778)]))) (fun t_ kont => XS.aload X772.here hx rfl (hb hby at_115) rfl rfl kont) ?_
        refine own_bk (S' := (T770.setTop (mkF m 119 #[iv v0, iv v1, iv v2, iv v3, iv v4, iv oi, iv ri, rv xo, rv xr, rv a729, rv a677, .unset, .unset, .unset] [(.ref xr), (.ref xo), (.ref a729), (.ref a778), (.ref a778)]))) (fun t_ kont => XS.aload X772.here hx rfl (hb hby at_117) rfl rfl kont) ?_
        obtain ⟨_, _, ⟨T790, L791, k792, n793⟩, -, X794, hS2_, hgr_, ⟨Lc795, hQ796, l797, y798, z799⟩, st800⟩ := X772.specialBackS hx (y := (⟨"com/example/portcullis/portcullis/policy/WebDecision", "<init>", "(Ljava/lang/String;Lcom/example/portcullis/portcullis/policy/WebDecision$Outcome;Lcom/example/portcullis/portcullis/policy/WebDecision$Reason;)V"⟩ : MethodName)) rfl hown (mvT hZ (hw _ (List.mem_of_getElem? (i := 17) rfl))) (mvT hZ (hw _ (List.mem_of_getElem? (i := 18) rfl))) (mvT hZ (hw _ (List.mem_of_getElem? (i := 19) rfl))) (by decide) (backOfS (W := 1) (rm3R l Z a0 hw [] a778 a729 xo xr h771 n0 Z781 O783 A775 ag780 F784 F785 F786) hZ (hw _ (List.mem_of_getElem? (i := 19) rfl)) (hw _ (List.mem_of_getElem? (i := 16) rfl)) (by decide) (by decide)) (g := (mkF m 119 #[iv v0, iv v1, iv v2, iv v3, iv v4, iv oi, iv ri, rv xo, rv xr, rv a729, rv a677, .unset, .unset, .unset] [(.ref xr), (.ref xo), (.ref a729), (.ref a778), (.ref a778)])) rfl (by rw [hml]; rfl) (Steps.refl _) (a := a778) (argsL := [(.ref a729), (.ref xo), (.ref xr)]) (rest := [(.ref a778)]) (lenOf (by decide +kernel : parseMethodDescriptor "(Ljava/lang/String;Lcom/example/portcullis/portcullis/policy/WebDecision$Outcome;Lcom/example/portcullis/portcullis/policy/WebDecision$Reason;)V" = some ⟨[(.object "java/lang/String"), (.object "com/example/portcullis/portcullis/policy/WebDecision$Outcome"), (.object "com/example/portcullis/portcullis/policy/WebDecision$Reason")], none⟩) rfl) rfl (by show 2 * 0 + _ ≤ _; exact Nat.le_of_eq rfl) (hb hby at_119) (fun _ _ => ⟨rfl, e773, (by decide : 4 + 4 ≤ _), (by decide : 11 + 60 ≤ _)⟩)
        dsimp only [Pt.U, Pt.locs, Pt.cells, Pt.slots] at X794 l797 y798 z799 st800 hQ796 hS2_ hgr_
        subst l797 y798 z799
        obtain ⟨X801, hS, hZ, hown⟩ := rebS hS (by rw [show T770.heap = h771 from e773]; exact hk782) X794 hS2_ hgr_ hZ hown
        obtain ⟨rfl, N802, O789, K787, g788⟩ := hQ796
        have N804 := Fr.app N764 N802
        have E805 := (A775.keep K787)
        have Z806 := Nat.le_trans Z781 K787.1
        have O807 := O783.keep K787 (allS ag780 all0)
        refine own_tr (S' := (T790.setTop (mkF m 122 #[iv v0, iv v1, iv v2, iv v3, iv v4, iv oi, iv ri, rv xo, rv xr, rv a729, rv a677, .unset, .unset, .unset] [(.ref a778)]))) st800 ?_
        refine own_bk (S' := (T790.setTop (mkF m 124 #[iv v0, iv v1, iv v2, iv v3, iv v4, iv oi, iv ri, rv xo, rv xr, rv a729, rv a778, .unset, .unset, .unset] []))) (fun t_ kont => XS.astore X801.here hx rfl (hb hby at_122) rfl rfl (l' := #[iv v0, iv v1, iv v2, iv v3, iv v4, iv oi, iv ri, rv xo, rv xr, rv a729, rv a778, .unset, .unset, .unset]) rfl kont) ?_
        refine own_bk (S' := (T790.setTop (mkF m 126 #[iv v0, iv v1, iv v2, iv v3, iv v4, iv oi, iv ri, rv xo, rv xr, rv a729, rv a778, .unset, .unset, .unset] [(.ref a778)]))) (fun t_ kont => XS.aload X801.here hx rfl (hb hby at_124) rfl rfl kont) ?_
        obtain ⟨cqq819, kqq819, q819a, q819b, q819c⟩ := isOf hZ rfl E805
        obtain ⟨_, _, ⟨T808, L809, k810, n811⟩, -, X812, ⟨Lc813, hQ814, l815, y816, z817⟩, st818⟩ := X801.virtualBack hx (y := (⟨"com/example/portcullis/portcullis/policy/WebDecision", "allowed", "()Z"⟩ : MethodName)) (z := (⟨"com/example/portcullis/portcullis/policy/WebDecision", "allowed", "()Z"⟩ : MethodName)) hown (mvT hZ (hw _ (List.mem_of_getElem? (i := 47) rfl))) (mvT hZ (hw _ (List.mem_of_getElem? (i := 48) rfl))) (notFace_of_selects (args := #[]) (mvT hZ (hw _ (List.mem_of_getElem? (i := 50) rfl)))) (mvT hZ (hw _ (List.mem_of_getElem? (i := 50) rfl))) (mvT hZ (hw _ (List.mem_of_getElem? (i := 49) rfl))) (by decide) (backOf (W := 0) (rm7 l Z a0 hw [] a778 xo r_ALLOW (0 : Int32) T790.heap n0 Z806 g788 (G_ALLOW.1.ext O789.2) (by simp [hne])) hZ (hw _ (List.mem_of_getElem? (i := 51) rfl)) (hw _ (List.mem_of_getElem? (i := 16) rfl)) (by decide) (by decide)) q819a q819c (g := (mkF m 126 #[iv v0, iv v1, iv v2, iv v3, iv v4, iv oi, iv ri, rv xo, rv xr, rv a729, rv a778, .unset, .unset, .unset] [(.ref a778)])) rfl (by rw [hml]; rfl) (Steps.refl _) (argsL := []) (rest := []) (lenOf (by decide +kernel : parseMethodDescriptor "()Z" = some ⟨[], some .boolean⟩) rfl) rfl (by show 2 * 0 + _ ≤ _; exact Nat.le_of_eq rfl) (hb hby at_126) (fun _ _ => ⟨rfl, rfl, (by decide : 8 + 0 ≤ _), (by decide : 71 + 0 ≤ _)⟩)
        dsimp only [Pt.U, Pt.locs, Pt.cells, Pt.slots] at X812 l815 y816 z817 st818 hQ814
        subst l815 y816 z817
        obtain ⟨rfl, N820, e821⟩ := hQ814
        have N822 := Fr.app N804 N820
        refine own_tr (S' := (T808.setTop (mkF m 129 #[iv v0, iv v1, iv v2, iv v3, iv v4, iv oi, iv ri, rv xo, rv xr, rv a729, rv a778, .unset, .unset, .unset] [(.int (0 : Int32))]))) st818 ?_
        refine own_bk (S' := (T808.setTop (mkF m 131 #[iv v0, iv v1, iv v2, iv v3, iv v4, iv oi, iv ri, rv xo, rv xr, rv a729, rv a778, iv (0 : Int32), .unset, .unset] []))) (fun t_ kont => XS.istore X812.here hx rfl (hb hby at_129) rfl (l' := #[iv v0, iv v1, iv v2, iv v3, iv v4, iv oi, iv ri, rv xo, rv xr, rv a729, rv a778, iv (0 : Int32), .unset, .unset]) rfl kont) ?_
        refine own_bk (S' := (T808.setTop (mkF m 133 #[iv v0, iv v1, iv v2, iv v3, iv v4, iv oi, iv ri, rv xo, rv xr, rv a729, rv a778, iv (0 : Int32), .unset, .unset] [(.ref a778)]))) (fun t_ kont => XS.aload X812.here hx rfl (hb hby at_131) rfl rfl kont) ?_
        obtain ⟨cqq834, kqq834, q834a, q834b, q834c⟩ := isOf hZ e821 E805
        obtain ⟨_, _, ⟨T823, L824, k825, n826⟩, -, X827, ⟨Lc828, hQ829, l830, y831, z832⟩, st833⟩ := X812.virtualBack hx (y := (⟨"com/example/portcullis/portcullis/policy/WebDecision", "allowed", "()Z"⟩ : MethodName)) (z := (⟨"com/example/portcullis/portcullis/policy/WebDecision", "allowed", "()Z"⟩ : MethodName)) hown (mvT hZ (hw _ (List.mem_of_getElem? (i := 47) rfl))) (mvT hZ (hw _ (List.mem_of_getElem? (i := 48) rfl))) (notFace_of_selects (args := #[]) (mvT hZ (hw _ (List.mem_of_getElem? (i := 50) rfl)))) (mvT hZ (hw _ (List.mem_of_getElem? (i := 50) rfl))) (mvT hZ (hw _ (List.mem_of_getElem? (i := 49) rfl))) (by decide) (backOf (W := 0) (rm7 l Z a0 hw [] a778 xo r_ALLOW (0 : Int32) T790.heap n0 Z806 g788 (G_ALLOW.1.ext O789.2) (by simp [hne])) hZ (hw _ (List.mem_of_getElem? (i := 51) rfl)) (hw _ (List.mem_of_getElem? (i := 16) rfl)) (by decide) (by decide)) q834a q834c (g := (mkF m 133 #[iv v0, iv v1, iv v2, iv v3, iv v4, iv oi, iv ri, rv xo, rv xr, rv a729, rv a778, iv (0 : Int32), .unset, .unset] [(.ref a778)])) rfl (by rw [hml]; rfl) (Steps.refl _) (argsL := []) (rest := []) (lenOf (by decide +kernel : parseMethodDescriptor "()Z" = some ⟨[], some .boolean⟩) rfl) rfl (by show 2 * 0 + _ ≤ _; exact Nat.le_of_eq rfl) (hb hby at_133) (fun _ _ => ⟨rfl, e821, (by decide : 8 + 0 ≤ _), (by decide : 71 + 0 ≤ _)⟩)
        dsimp only [Pt.U, Pt.locs, Pt.cells, Pt.slots] at X827 l830 y831 z832 st833 hQ829
        subst l830 y831 z832
        obtain ⟨rfl, N835, e836⟩ := hQ829
        have N837 := Fr.app N822 N835
        refine own_tr (S' := (T823.setTop (mkF m 136 #[iv v0, iv v1, iv v2, iv v3, iv v4, iv oi, iv ri, rv xo, rv xr, rv a729, rv a778, iv (0 : Int32), .unset, .unset] [(.int (0 : Int32))]))) st833 ?_
        refine own_bk (S' := (T823.setTop (mkF m 138 #[iv v0, iv v1, iv v2, iv v3, iv v4, iv oi, iv ri, rv xo, rv xr, rv a729, rv a778, iv (0 : Int32), iv (0 : Int32), .unset] []))) (fun t_ kont => XS.istore X827.here hx rfl (hb hby at_136) rfl (l' := #[iv v0, iv v1, iv v2, iv v3, iv v4, iv oi, iv ri, rv xo, rv xr, rv a729, rv a778, iv (0 : Int32), iv (0 : Int32), .unset]) rfl kont) ?_
        refine own_bk (S' := (T823.setTop (mkF m 140 #[iv v0, iv v1, iv v2, iv v3, iv v4, iv oi, iv ri, rv xo, rv xr, rv a729, rv a778, iv (0 : Int32), iv (0 : Int32), .unset] [(.int oi)]))) (fun t_ kont => XS.iload X827.here hx rfl (hb hby at_138) rfl kont) ?_
        refine own_bk (S' := (T823.setTop (mkF m 147 #[iv v0, iv v1, iv v2, iv v3, iv v4, iv oi, iv ri, rv xo, rv xr, rv a729, rv a778, iv (0 : Int32), iv (0 : Int32), .unset] []))) (fun t_ kont => XS.ifYes X827.here hx rfl (pc0 := 140) (pc' := 147) rfl (hb hby at_140) rfl ((if0 _ _).trans (feq (hc1)).2) (by decide) (by decide) kont) ?_
        refine own_bk (S' := (T823.setTop (mkF m 148 #[iv v0, iv v1, iv v2, iv v3, iv v4, iv oi, iv ri, rv xo, rv xr, rv a729, rv a778, iv (0 : Int32), iv (0 : Int32), .unset] [(.int (0 : Int32))]))) (fun t_ kont => XS.iconst X827.here hx rfl (hb hby at_147) kont) ?_
        refine own_bk (S' := (T823.setTop (mkF m 150 #[iv v0, iv v1, iv v2, iv v3, iv v4, iv oi, iv ri, rv xo, rv xr, rv a729, rv a778, iv (0 : Int32), iv (0 : Int32), iv (0 : Int32)] []))) (fun t_ kont => XS.istore X827.here hx rfl (hb hby at_148) rfl (l' := #[iv v0, iv v1, iv v2, iv v3, iv v4, iv oi, iv ri, rv xo, rv xr, rv a729, rv a778, iv (0 : Int32), iv (0 : Int32), iv (0 : Int32)]) rfl kont) ?_
        refine own_bk (S' := (T823.setTop (mkF m 152 #[iv v0, iv v1, iv v2, iv v3, iv v4, iv oi, iv ri, rv xo, rv xr, rv a729, rv a778, iv (0 : Int32), iv (0 : Int32), iv (0 : Int32)] [(.int (0 : Int32))]))) (fun t_ kont => XS.iload X827.here hx rfl (hb hby at_150) rfl kont) ?_
        refine own_bk (S' := (T823.setTop (mkF m 154 #[iv v0, iv v1, iv v2, iv v3, iv v4, iv oi, iv ri, rv xo, rv xr, rv a729, rv a778, iv (0 : Int32), iv (0 : Int32), iv (0 : Int32)] [(.int (0 : Int32)), (.int (0 : Int32))]))) (fun t_ kont => XS.iload X827.here hx rfl (hb hby at_152) rfl kont) ?_
        refine own_bk (S' := (T823.setTop (mkF m 157 #[iv v0, iv v1, iv v2, iv v3, iv v4, iv oi, iv ri, rv xo, rv xr, rv a729, rv a778, iv (0 : Int32), iv (0 : Int32), iv (0 : Int32)] []))) (fun t_ kont => XS.icmpNo X827.here hx rfl (hb hby at_154) rfl (teq (by decide : ((0 : Int32)) = ((0 : Int32)))).2 kont) ?_
        refine own_bk (S' := (T823.setTop (mkF m 159 #[iv v0, iv v1, iv v2, iv v3, iv v4, iv oi, iv ri, rv xo, rv xr, rv a729, rv a778, iv (0 : Int32), iv (0 : Int32), iv (0 : Int32)] [(.int (0 : Int32))]))) (fun t_ kont => XS.iload X827.here hx rfl (hb hby at_157) rfl kont) ?_
        refine own_bk (S' := (T823.setTop (mkF m 161 #[iv v0, iv v1, iv v2, iv v3, iv v4, iv oi, iv ri, rv xo, rv xr, rv a729, rv a778, iv (0 : Int32), iv (0 : Int32), iv (0 : Int32)] [(.int (0 : Int32)), (.int (0 : Int32))]))) (fun t_ kont => XS.iload X827.here hx rfl (hb hby at_159) rfl kont) ?_
        refine own_bk (S' := (T823.setTop (mkF m 164 #[iv v0, iv v1, iv v2, iv v3, iv v4, iv oi, iv ri, rv xo, rv xr, rv a729, rv a778, iv (0 : Int32), iv (0 : Int32), iv (0 : Int32)] []))) (fun t_ kont => XS.icmpNo X827.here hx rfl (hb hby at_161) rfl (teq (by decide : ((0 : Int32)) = ((0 : Int32)))).2 kont) ?_
        refine own_bk (S' := (T823.setTop (mkF m 165 #[iv v0, iv v1, iv v2, iv v3, iv v4, iv oi, iv ri, rv xo, rv xr, rv a729, rv a778, iv (0 : Int32), iv (0 : Int32), iv (0 : Int32)] [(.int (1 : Int32))]))) (fun t_ kont => XS.iconst X827.here hx rfl (hb hby at_164) kont) ?_
        refine own_bk (S' := (T823.setTop (mkF m 169 #[iv v0, iv v1, iv v2, iv v3, iv v4, iv oi, iv ri, rv xo, rv xr, rv a729, rv a778, iv (0 : Int32), iv (0 : Int32), iv (0 : Int32)] [(.int (1 : Int32))]))) (fun t_ kont => XS.goto X827.here hx rfl (pc0 := 165) (pc' := 169) rfl (hb hby at_165) (by decide) (by decide) kont) ?_
        exact own_retNW hS X827 (by rw [show T823.heap = T790.heap from e836]; exact (Nat.le_refl _)) hx hlk (t := .boolean) (w := (1 : Int32)) Bd.returns (by simp) (hb hby at_169) rfl ⟨rfl, N837⟩ (by decide) (by decide)
set_option maxRecDepth 65536 in
set_option maxHeartbeats 40000000 in
theorem comes_1 {Post : Tables → Env → Array Value → State → Outcome → State → Prop} (hpost : ∀ tb e args s v u, (limb_1_1.after args s (.returned v) u = true ∧ limb_1_2.after args s (.returned v) u = true ∧ True) → ReturnedEndW s (.returned v) u (Jvm.fieldLocs frame_1_writes args s ++ Jvm.arrayLocs frame_1_arrays args s ++ Jvm.staticLocs frame_1_statics s) 24 2176 → Post tb e args s (.returned v) u) :
    ArmFor flags0 classFile x code maxLocals ret World_1 tables_1 room_1 Calls_1 rest_1 Pre_1 Post := by
  intro l hfl _ _ p e ha hc hk s m args below hf hA hF happ hP
  obtain ⟨hcalls, hrest, hpre⟩ := hP
  obtain ⟨-, -, -, hnamed, -, -, -, hat⟩ := (Spec.applies_iff hf).mp happ
  obtain ⟨hg, hn⟩ := and_e (Cond.before_iff.mp (show (Jvm.Cond.and given_1 narrow_1).before args s = true from hpre))
  obtain ⟨g0, hg⟩ := and_e hg
  obtain ⟨g1, hg⟩ := and_e hg
  obtain ⟨g2, hg⟩ := and_e hg
  obtain ⟨g3, hg⟩ := and_e hg
  obtain ⟨g4, hg⟩ := and_e hg
  have g5 := hg
  obtain ⟨w0, w1, w2, w3, w4, rfl⟩ : ∃ w0 w1 w2 w3 w4 : Value, args = #[w0, w1, w2, w3, w4] := by
    have hs : args.size = 5 := by simpa [Cond.value, given_1] using g0
    obtain ⟨L⟩ := args
    match L, hs with
    | [w0, w1, w2, w3, w4], _ => exact ⟨w0, w1, w2, w3, w4, rfl⟩
  have hw := fun d (hd : d ∈ tables_1) => atoms_spec (ws := Jvm.Cond.code x code maxLocals ret :: tables_1) hat d (List.mem_cons_of_mem _ hd)
  obtain ⟨hsets, hown0⟩ := atoms_of _ (rest_1_c_eq ▸ (show rest_1_c.before _ s = true from hrest))
  have hfit : Fit s := fun {y c} hc i hi => by
    obtain ⟨ha, rfl⟩ := Array.getElem?_eq_some_iff.mp hc
    have q := List.all_eq_true.mp ((Array.all_eq_true_iff_forall_mem.mp hF) _ (Array.getElem_mem ha)) i (List.mem_range.mpr hi)
    simpa [Array.getElem?_eq_getElem hi] using q
  obtain ⟨v0, ev0⟩ := is_v g1
  obtain rfl : w0 = (.int v0) := Option.some.inj ev0
  obtain ⟨v1, ev1⟩ := is_v g2
  obtain rfl : w1 = (.int v1) := Option.some.inj ev1
  obtain ⟨v2, ev2⟩ := is_v g3
  obtain rfl : w2 = (.int v2) := Option.some.inj ev2
  obtain ⟨v3, ev3⟩ := is_v g4
  obtain rfl : w3 = (.int v3) := Option.some.inj ev3
  obtain ⟨v4, ev4⟩ := is_v g5
  obtain rfl : w4 = (.int v4) := Option.some.inj ev4
  obtain ⟨c0, hn⟩ := and_e hn
  obtain ⟨c1, hn⟩ := and_e hn
  obtain ⟨c2, hn⟩ := and_e hn
  obtain ⟨c3, hn⟩ := and_e hn
  obtain ⟨c4, hn⟩ := and_e hn
  obtain ⟨c5, hn⟩ := and_e hn
  obtain ⟨c6, hn⟩ := and_e hn
  obtain ⟨c7, hn⟩ := and_e hn
  obtain ⟨c8, hn⟩ := and_e hn
  obtain ⟨c9, hn⟩ := and_e hn
  obtain ⟨c10, hn⟩ := and_e hn
  obtain ⟨c11, hn⟩ := and_e hn
  obtain ⟨c12, hn⟩ := and_e hn
  obtain ⟨c13, hn⟩ := and_e hn
  have c14 := hn
  obtain ⟨r_ALLOW, ev_ALLOW⟩ := exa_v c0
  have G_ALLOW : own_E s s.heap r_ALLOW "com/example/portcullis/portcullis/policy/WebDecision$Outcome" "ALLOW" "Lcom/example/portcullis/portcullis/policy/WebDecision$Outcome;" 0 := ⟨Sta.start ev_ALLOW (Or.inr ⟨(hw _ (List.mem_of_getElem? (i := 6) rfl)), (hw _ (List.mem_of_getElem? (i := 7) rfl))⟩), Exa.start ev_ALLOW c0, Fld.start (own_fldInt c5 ev_ALLOW)⟩
  obtain ⟨r_NO_ROLE, ev_NO_ROLE⟩ := exa_v c1
  have G_NO_ROLE : Sta s s.heap "com/example/portcullis/portcullis/policy/WebDecision$Reason" "NO_ROLE" "Lcom/example/portcullis/portcullis/policy/WebDecision$Reason;" (.ref r_NO_ROLE) := Sta.start ev_NO_ROLE (Or.inr ⟨(hw _ (List.mem_of_getElem? (i := 12) rfl)), (hw _ (List.mem_of_getElem? (i := 13) rfl))⟩)
  obtain ⟨r_REDIRECT, ev_REDIRECT⟩ := exa_v c2
  have G_REDIRECT : own_E s s.heap r_REDIRECT "com/example/portcullis/portcullis/policy/WebDecision$Outcome" "REDIRECT" "Lcom/example/portcullis/portcullis/policy/WebDecision$Outcome;" 3 := ⟨Sta.start ev_REDIRECT (Or.inr ⟨(hw _ (List.mem_of_getElem? (i := 6) rfl)), (hw _ (List.mem_of_getElem? (i := 54) rfl))⟩), Exa.start ev_REDIRECT c2, Fld.start (own_fldInt c4 ev_REDIRECT)⟩
  obtain ⟨r_EXCLUDED, ev_EXCLUDED⟩ := exa_v c3
  have G_EXCLUDED : Sta s s.heap "com/example/portcullis/portcullis/policy/WebDecision$Reason" "EXCLUDED" "Lcom/example/portcullis/portcullis/policy/WebDecision$Reason;" (.ref r_EXCLUDED) := Sta.start ev_EXCLUDED (Or.inr ⟨(hw _ (List.mem_of_getElem? (i := 12) rfl)), (hw _ (List.mem_of_getElem? (i := 56) rfl))⟩)
  obtain ⟨r_ROLE, ev_ROLE⟩ := exa_v c6
  have G_ROLE : Sta s s.heap "com/example/portcullis/portcullis/policy/WebDecision$Reason" "ROLE" "Lcom/example/portcullis/portcullis/policy/WebDecision$Reason;" (.ref r_ROLE) := Sta.start ev_ROLE (Or.inr ⟨(hw _ (List.mem_of_getElem? (i := 12) rfl)), (hw _ (List.mem_of_getElem? (i := 58) rfl))⟩)
  obtain ⟨r_UNCONSTRAINED, ev_UNCONSTRAINED⟩ := exa_v c7
  have G_UNCONSTRAINED : Sta s s.heap "com/example/portcullis/portcullis/policy/WebDecision$Reason" "UNCONSTRAINED" "Lcom/example/portcullis/portcullis/policy/WebDecision$Reason;" (.ref r_UNCONSTRAINED) := Sta.start ev_UNCONSTRAINED (Or.inr ⟨(hw _ (List.mem_of_getElem? (i := 12) rfl)), (hw _ (List.mem_of_getElem? (i := 83) rfl))⟩)
  obtain ⟨r_UNCOVERED, ev_UNCOVERED⟩ := exa_v c8
  have G_UNCOVERED : Sta s s.heap "com/example/portcullis/portcullis/policy/WebDecision$Reason" "UNCOVERED" "Lcom/example/portcullis/portcullis/policy/WebDecision$Reason;" (.ref r_UNCOVERED) := Sta.start ev_UNCOVERED (Or.inr ⟨(hw _ (List.mem_of_getElem? (i := 12) rfl)), (hw _ (List.mem_of_getElem? (i := 85) rfl))⟩)
  obtain ⟨r_AUTHENTICATE, ev_AUTHENTICATE⟩ := exa_v c9
  have G_AUTHENTICATE : own_E s s.heap r_AUTHENTICATE "com/example/portcullis/portcullis/policy/WebDecision$Outcome" "AUTHENTICATE" "Lcom/example/portcullis/portcullis/policy/WebDecision$Outcome;" 2 := ⟨Sta.start ev_AUTHENTICATE (Or.inr ⟨(hw _ (List.mem_of_getElem? (i := 6) rfl)), (hw _ (List.mem_of_getElem? (i := 87) rfl))⟩), Exa.start ev_AUTHENTICATE c9, Fld.start (own_fldInt c11 ev_AUTHENTICATE)⟩
  obtain ⟨r_LOGIN_REQUIRED, ev_LOGIN_REQUIRED⟩ := exa_v c10
  have G_LOGIN_REQUIRED : Sta s s.heap "com/example/portcullis/portcullis/policy/WebDecision$Reason" "LOGIN_REQUIRED" "Lcom/example/portcullis/portcullis/policy/WebDecision$Reason;" (.ref r_LOGIN_REQUIRED) := Sta.start ev_LOGIN_REQUIRED (Or.inr ⟨(hw _ (List.mem_of_getElem? (i := 12) rfl)), (hw _ (List.mem_of_getElem? (i := 89) rfl))⟩)
  obtain ⟨r_CONFIDENTIAL_REQUIRED, ev_CONFIDENTIAL_REQUIRED⟩ := exa_v c12
  have G_CONFIDENTIAL_REQUIRED : Sta s s.heap "com/example/portcullis/portcullis/policy/WebDecision$Reason" "CONFIDENTIAL_REQUIRED" "Lcom/example/portcullis/portcullis/policy/WebDecision$Reason;" (.ref r_CONFIDENTIAL_REQUIRED) := Sta.start ev_CONFIDENTIAL_REQUIRED (Or.inr ⟨(hw _ (List.mem_of_getElem? (i := 12) rfl)), (hw _ (List.mem_of_getElem? (i := 91) rfl))⟩)
  obtain ⟨r_DENY, ev_DENY⟩ := exa_v c13
  have G_DENY : own_E s s.heap r_DENY "com/example/portcullis/portcullis/policy/WebDecision$Outcome" "DENY" "Lcom/example/portcullis/portcullis/policy/WebDecision$Outcome;" 1 := ⟨Sta.start ev_DENY (Or.inr ⟨(hw _ (List.mem_of_getElem? (i := 6) rfl)), (hw _ (List.mem_of_getElem? (i := 93) rfl))⟩), Exa.start ev_DENY c13, Fld.start (own_fldInt c14 ev_DENY)⟩
  have n5 := not_v (Cond.before_iff.mp (hsets _ (List.mem_of_getElem? (i := 2) rfl)))
  obtain ⟨cz, ecz⟩ := is_v (Cond.before_iff.mp (hsets _ (List.mem_of_getElem? (i := 1) rfl)))
  have SC : Sta s s.heap "java/lang/String" "COMPACT_STRINGS" "Z" (.int cz) := Sta.start ecz (Or.inl (hsets _ (List.mem_of_getElem? (i := 0) rfl)))
  have hcz : ¬ (cz = (0 : Int32)) := gotF (Cond.eq_ints ecz (Term.int_eval (0))) n5
  obtain ⟨n, o, h1, h2, h3, _, L, rfl, ⟨rfl, N⟩, hq⟩ := rm0 l s _ hw tables_1 v0 v1 v2 v3 v4 cz r_ALLOW r_DENY r_AUTHENTICATE r_REDIRECT r_UNCONSTRAINED r_UNCOVERED r_ROLE r_NO_ROLE r_EXCLUDED r_LOGIN_REQUIRED r_CONFIDENTIAL_REQUIRED s.heap s.heap.size (Nat.le_refl _) (Old.start s) SC hcz G_ALLOW G_DENY G_AUTHENTICATE G_REDIRECT G_UNCONSTRAINED G_UNCOVERED G_ROLE G_NO_ROLE G_EXCLUDED G_LOGIN_REQUIRED G_CONFIDENTIAL_REQUIRED p e ha hc hk s m _ below hf ((Spec.applies_iff_loose hf).mp happ).1 ⟨rfl, State.Warmed39.refl s, rfl⟩ trivial
  refine ⟨n, _, h1, h2, h3, hpost _ _ _ _ _ _ ⟨Cond.after_iff.mpr rfl, Cond.after_iff.mpr (eq_i res_at (Term.int_eval (1)) rfl), trivial⟩ ⟨hq.1, hq.2.1, hq.2.2.1, (hq.2.2.2.sift fun y hy => Or.inr (N y hy)).mono (by decide) (by decide)⟩⟩
theorem main_1_1 : Claimed_1_1 := comes_1 fun _ _ _ _ _ _ h hF => ⟨h.1, hF⟩
theorem main_1_2 : Claimed_1_2 := comes_1 fun _ _ _ _ _ _ h hF => ⟨h.2.1, hF⟩
end Jvm.Pilot.@@N@@
namespace Jvm.Pilot.@@N@@
open Jvm Jvm.ClassFile Sem Op Lib Jvm.Free Jvm.Stand Jvm.Pilot.@@N@@.Jvm.D
/-! MADE BY PROGRAM (witnessworld.py) out of the Statement's table words and the real class files: 26 classes; the members and pool entries that the words name. The judged class is class 1, her method 3. -/
namespace start1
open Jvm.ClassFile
def u (s : String) : CpInfo := .utf8 (stringToUtf16 s)
/-- a pool by its gaps: so many unusable entries, then the entry; so many at the end -/
def gap : Nat → List CpInfo → List CpInfo
  | 0, r => r
  | n + 1, r => .unusable :: gap n r
def poolList (es : List (Nat × CpInfo)) (last : Nat) : List CpInfo := es.foldr (fun e r => gap e.1 (e.2 :: r)) (gap last [])
def pool (es : List (Nat × CpInfo)) (last : Nat) : Array CpInfo := ⟨poolList es last⟩
def fileOf (pool : Array CpInfo) (this : Nat) (attrs : Array Attribute := #[]) (ms : Array MethodInfo := #[]) (fl : Nat := 33) (sup : Nat := 0) (ifs : Array Nat := #[]) (fds : Array FieldInfo := #[]) : ClassFile where
  minorVersion := 0
  majorVersion := 65
  constantPool := pool
  accessFlags := fl
  thisClass := this
  superClass := sup
  interfaces := ifs
  fields := fds
  methods := ms
  attributes := attrs
def plain (name : String) (sup : Option ClassId) : Class where
  name := name
  kind := .ordinary
  loader := none
  accessFlags := 33
  super := sup
  interfaces := #[]
  cf := none
  fields := #[]
  methods := #[]
  instanceTypes := #[]
  staticTypes := #[]
  resolved := #[]
  callSites := []
  init := .initialized
  statics := none
  mirror := none

def pool0 : Array CpInfo := pool [(5, u "<init>"), (0, u "()V"), (1, .class_ 10), (1, u "java/lang/Object")] 113

def k0c0 : Code := { maxStack := 0, maxLocals := 1, code := object_method_1_code, exceptionTable := #[], attributes := #[] }
def k0m0 : Method := { name := "<init>", desc := "()V", sig := { parameters := [], returnType := none }, accessFlags := 1, code := some k0c0 }
/-- java/lang/Object -/
def k0 : Class := { plain "java/lang/Object" none with
  accessFlags := 33
  interfaces := #[]
  cf := some (fileOf pool0 8 #[] #[{ accessFlags := 1, nameIndex := 5, descriptorIndex := 6, attributes := #[] }] 33 0 #[] #[])
  fields := #[]
  methods := #[k0m0]
  instanceTypes := #[]
  staticTypes := #[]
  resolved := Array.replicate 124 none
  statics := none }

def pool1 : Array CpInfo := pool [(2, .class_ 4), (1, u "java/lang/Object"), (0, u "<init>"), (0, u "()V"), (0, .fieldref 8 9), (0, .class_ 10), (0, .nameAndType 11 12), (0, u "com/example/portcullis/portcullis/policy/WebDecision$Outcome"), (0, u "ALLOW"), (0, u "Lcom/example/portcullis/portcullis/policy/WebDecision$Outcome;"), (0, .fieldref 8 14), (0, .nameAndType 15 12), (0, u "DENY"), (0, .fieldref 8 17), (0, .nameAndType 18 12), (0, u "AUTHENTICATE"), (0, .fieldref 8 20), (0, .nameAndType 21 12), (0, u "REDIRECT"), (0, .fieldref 23 24), (0, .class_ 25), (0, .nameAndType 26 27), (0, u "com/example/portcullis/portcullis/policy/WebDecision$Reason"), (0, u "UNCONSTRAINED"), (0, u "Lcom/example/portcullis/portcullis/policy/WebDecision$Reason;"), (0, .fieldref 23 29), (0, .nameAndType 30 27), (0, u "UNCOVERED"), (0, .fieldref 23 32), (0, .nameAndType 33 27), (0, u "ROLE"), (0, .fieldref 23 35), (0, .nameAndType 36 27), (0, u "NO_ROLE"), (0, .fieldref 23 38), (0, .nameAndType 39 27), (0, u "EXCLUDED"), (0, .fieldref 23 41), (0, .nameAndType 42 27), (0, u "LOGIN_REQUIRED"), (0, .fieldref 23 44), (0, .nameAndType 45 27), (0, u "CONFIDENTIAL_REQUIRED"), (0, .integer 2147483647), (0, .methodref 48 49), (0, .class_ 50), (0, .nameAndType 51 52), (0, u "com/example/portcullis/portcullis/policy/WebDecisionAllowedPinLaw"), (0, u "outcomeOf"), (0, u "(I)Lcom/example/portcullis/portcullis/policy/WebDecision$Outcome;"), (0, .methodref 48 54), (0, .nameAndType 55 56), (0, u "reasonOf"), (0, u "(I)Lcom/example/portcullis/portcullis/policy/WebDecision$Reason;"), (0, .class_ 58), (0, u "java/lang/String"), (0, .methodref 57 60), (0, .nameAndType 5 61), (0, u "([C)V"), (0, .class_ 63), (0, u "com/example/portcullis/portcullis/policy/WebDecision"), (0, .methodref 62 65), (0, .nameAndType 5 66), (0, u "(Ljava/lang/String;Lcom/example/portcullis/portcullis/policy/WebDecision$Outcome;Lcom/example/portcullis/portcullis/policy/WebDecision$Reason;)V"), (0, .methodref 62 68), (0, .nameAndType 69 70), (0, u "allowed"), (0, u "()Z"), (3, u "law"), (0, u "(IIIII)Z")] 5

def k1m0 : Method := { name := "<init>", desc := "()V", sig := { parameters := [], returnType := none }, accessFlags := 1, code := none }
def k1c1 : Code := { maxStack := 2, maxLocals := 1, code := method_2_code, exceptionTable := #[], attributes := #[] }
def k1m1 : Method := { name := "outcomeOf", desc := "(I)Lcom/example/portcullis/portcullis/policy/WebDecision$Outcome;", sig := { parameters := [.int], returnType := some (.object "com/example/portcullis/portcullis/policy/WebDecision$Outcome") }, accessFlags := 10, code := some k1c1 }
def k1c2 : Code := { maxStack := 2, maxLocals := 1, code := method_3_code, exceptionTable := #[], attributes := #[] }
def k1m2 : Method := { name := "reasonOf", desc := "(I)Lcom/example/portcullis/portcullis/policy/WebDecision$Reason;", sig := { parameters := [.int], returnType := some (.object "com/example/portcullis/portcullis/policy/WebDecision$Reason") }, accessFlags := 10, code := some k1c2 }
def k1c3 : Code := { maxStack := 5, maxLocals := 14, code := code, exceptionTable := #[], attributes := #[] }
def k1m3 : Method := { name := "law", desc := "(IIIII)Z", sig := { parameters := [.int, .int, .int, .int, .int], returnType := some .boolean }, accessFlags := 9, code := some k1c3 }
/-- com/example/portcullis/portcullis/policy/WebDecisionAllowedPinLaw -/
def k1 : Class := { plain "com/example/portcullis/portcullis/policy/WebDecisionAllowedPinLaw" (some 0) with
  accessFlags := 49
  interfaces := #[]
  cf := some (fileOf pool1 48 #[] #[{ accessFlags := 1, nameIndex := 5, descriptorIndex := 6, attributes := #[] }, { accessFlags := 10, nameIndex := 51, descriptorIndex := 52, attributes := #[] }, { accessFlags := 10, nameIndex := 55, descriptorIndex := 56, attributes := #[] }, { accessFlags := 9, nameIndex := 74, descriptorIndex := 75, attributes := #[] }] 49 2 #[] #[])
  fields := #[]
  methods := #[k1m0, k1m1, k1m2, k1m3]
  instanceTypes := #[]
  staticTypes := #[]
  resolved := Array.replicate 81 none
  statics := none }

def pool2 : Array CpInfo := pool [(1, .class_ 2), (0, u "java/lang/constant/Constable"), (0, .class_ 4), (0, u "java/lang/Object")] 6

/-- java/lang/constant/Constable -/
def k2 : Class := { plain "java/lang/constant/Constable" (some 0) with
  accessFlags := 1537
  interfaces := #[]
  cf := some (fileOf pool2 1 #[] #[] 1537 3 #[] #[])
  fields := #[]
  methods := #[]
  instanceTypes := #[]
  staticTypes := #[]
  resolved := Array.replicate 11 none
  statics := none }

def pool3 : Array CpInfo := pool [(1, .class_ 2), (0, u "java/lang/Comparable"), (0, .class_ 4), (0, u "java/lang/Object")] 7

/-- java/lang/Comparable -/
def k3 : Class := { plain "java/lang/Comparable" (some 0) with
  accessFlags := 1537
  interfaces := #[]
  cf := some (fileOf pool3 1 #[] #[] 1537 3 #[] #[])
  fields := #[]
  methods := #[]
  instanceTypes := #[]
  staticTypes := #[]
  resolved := Array.replicate 12 none
  statics := none }

def pool4 : Array CpInfo := pool [(1, .class_ 2), (0, u "java/io/Serializable"), (0, .class_ 4), (0, u "java/lang/Object")] 2

/-- java/io/Serializable -/
def k4 : Class := { plain "java/io/Serializable" (some 0) with
  accessFlags := 1537
  interfaces := #[]
  cf := some (fileOf pool4 1 #[] #[] 1537 3 #[] #[])
  fields := #[]
  methods := #[]
  instanceTypes := #[]
  staticTypes := #[]
  resolved := Array.replicate 7 none
  statics := none }

def pool5 : Array CpInfo := pool [(2, .class_ 4), (1, u "java/lang/Enum"), (0, u "name"), (0, u "Ljava/lang/String;"), (2, u "ordinal"), (0, u "I"), (1, .class_ 14), (1, u "java/lang/Object"), (4, u "hash"), (86, .class_ 108), (1, u "java/lang/Enum$EnumDesc"), (2, .class_ 112), (0, u "java/lang/constant/Constable"), (0, .class_ 114), (0, u "java/lang/Comparable"), (0, .class_ 116), (0, u "java/io/Serializable")] 87

/-- java/lang/Enum -/
def k5 : Class := { plain "java/lang/Enum" (some 0) with
  accessFlags := 1057
  interfaces := #[2, 3, 4]
  cf := some (fileOf pool5 2 #[.nestMembers #[106]] #[] 1057 12 #[111, 113, 115] #[{ accessFlags := 18, nameIndex := 5, descriptorIndex := 6, attributes := #[] }, { accessFlags := 18, nameIndex := 9, descriptorIndex := 10, attributes := #[] }, { accessFlags := 2, nameIndex := 19, descriptorIndex := 10, attributes := #[] }])
  fields := #[{ name := "name", type := (.object "java/lang/String"), accessFlags := 18, slot := 0, constantValue := 0 }, { name := "ordinal", type := .int, accessFlags := 18, slot := 1, constantValue := 0 }, { name := "hash", type := .int, accessFlags := 2, slot := 2, constantValue := 0 }]
  methods := #[]
  instanceTypes := #[(.object "java/lang/String"), .int, .int]
  staticTypes := #[]
  resolved := Array.replicate 204 none
  statics := none }

def pool6 : Array CpInfo := pool [(2, .class_ 4), (1, u "com/example/portcullis/portcullis/core/Worded"), (25, .class_ 31), (0, u "java/lang/Object")] 11

/-- com/example/portcullis/portcullis/core/Worded -/
def k6 : Class := { plain "com/example/portcullis/portcullis/core/Worded" (some 0) with
  accessFlags := 1537
  interfaces := #[]
  cf := some (fileOf pool6 2 #[] #[] 1537 30 #[] #[])
  fields := #[]
  methods := #[]
  instanceTypes := #[]
  staticTypes := #[]
  resolved := Array.replicate 43 none
  statics := none }

def pool7 : Array CpInfo := pool [(1, .class_ 2), (0, u "com/example/portcullis/portcullis/policy/WebDecision$Outcome"), (2, u "ALLOW"), (0, u "Lcom/example/portcullis/portcullis/policy/WebDecision$Outcome;"), (2, u "DENY"), (2, u "AUTHENTICATE"), (2, u "REDIRECT"), (2, u "$VALUES"), (0, u "[Lcom/example/portcullis/portcullis/policy/WebDecision$Outcome;"), (6, .class_ 28), (1, u "java/lang/Enum"), (15, .class_ 45), (0, u "com/example/portcullis/portcullis/core/Worded"), (12, .class_ 59), (0, u "com/example/portcullis/portcullis/policy/WebDecision")] 2

/-- com/example/portcullis/portcullis/policy/WebDecision$Outcome -/
def k7 : Class := { plain "com/example/portcullis/portcullis/policy/WebDecision$Outcome" (some 5) with
  accessFlags := 16433
  interfaces := #[6]
  cf := some (fileOf pool7 1 #[.nestHost 58] #[] 16433 26 #[44] #[{ accessFlags := 16409, nameIndex := 5, descriptorIndex := 6, attributes := #[] }, { accessFlags := 16409, nameIndex := 9, descriptorIndex := 6, attributes := #[] }, { accessFlags := 16409, nameIndex := 12, descriptorIndex := 6, attributes := #[] }, { accessFlags := 16409, nameIndex := 15, descriptorIndex := 6, attributes := #[] }, { accessFlags := 4122, nameIndex := 18, descriptorIndex := 19, attributes := #[] }])
  fields := #[{ name := "ALLOW", type := (.object "com/example/portcullis/portcullis/policy/WebDecision$Outcome"), accessFlags := 16409, slot := 0, constantValue := 0 }, { name := "DENY", type := (.object "com/example/portcullis/portcullis/policy/WebDecision$Outcome"), accessFlags := 16409, slot := 1, constantValue := 0 }, { name := "AUTHENTICATE", type := (.object "com/example/portcullis/portcullis/policy/WebDecision$Outcome"), accessFlags := 16409, slot := 2, constantValue := 0 }, { name := "REDIRECT", type := (.object "com/example/portcullis/portcullis/policy/WebDecision$Outcome"), accessFlags := 16409, slot := 3, constantValue := 0 }, { name := "$VALUES", type := (.array (.object "com/example/portcullis/portcullis/policy/WebDecision$Outcome")), accessFlags := 4122, slot := 4, constantValue := 0 }]
  methods := #[]
  instanceTypes := #[(.object "java/lang/String"), .int, .int]
  staticTypes := #[(.object "com/example/portcullis/portcullis/policy/WebDecision$Outcome"), (.object "com/example/portcullis/portcullis/policy/WebDecision$Outcome"), (.object "com/example/portcullis/portcullis/policy/WebDecision$Outcome"), (.object "com/example/portcullis/portcullis/policy/WebDecision$Outcome"), (.array (.object "com/example/portcullis/portcullis/policy/WebDecision$Outcome"))]
  resolved := Array.replicate 62 none
  statics := some 0 }

def pool8 : Array CpInfo := pool [(1, .class_ 2), (0, u "com/example/portcullis/portcullis/policy/WebDecision$Reason"), (2, u "UNCONSTRAINED"), (0, u "Lcom/example/portcullis/portcullis/policy/WebDecision$Reason;"), (2, u "UNCOVERED"), (2, u "ROLE"), (2, u "NO_ROLE"), (2, u "EXCLUDED"), (2, u "LOGIN_REQUIRED"), (2, u "CONFIDENTIAL_REQUIRED"), (2, u "$VALUES"), (0, u "[Lcom/example/portcullis/portcullis/policy/WebDecision$Reason;"), (6, .class_ 37), (1, u "java/lang/Enum"), (18, .class_ 57), (0, u "com/example/portcullis/portcullis/core/Worded"), (12, .class_ 71), (0, u "com/example/portcullis/portcullis/policy/WebDecision")] 2

/-- com/example/portcullis/portcullis/policy/WebDecision$Reason -/
def k8 : Class := { plain "com/example/portcullis/portcullis/policy/WebDecision$Reason" (some 5) with
  accessFlags := 16433
  interfaces := #[6]
  cf := some (fileOf pool8 1 #[.nestHost 70] #[] 16433 35 #[56] #[{ accessFlags := 16409, nameIndex := 5, descriptorIndex := 6, attributes := #[] }, { accessFlags := 16409, nameIndex := 9, descriptorIndex := 6, attributes := #[] }, { accessFlags := 16409, nameIndex := 12, descriptorIndex := 6, attributes := #[] }, { accessFlags := 16409, nameIndex := 15, descriptorIndex := 6, attributes := #[] }, { accessFlags := 16409, nameIndex := 18, descriptorIndex := 6, attributes := #[] }, { accessFlags := 16409, nameIndex := 21, descriptorIndex := 6, attributes := #[] }, { accessFlags := 16409, nameIndex := 24, descriptorIndex := 6, attributes := #[] }, { accessFlags := 4122, nameIndex := 27, descriptorIndex := 28, attributes := #[] }])
  fields := #[{ name := "UNCONSTRAINED", type := (.object "com/example/portcullis/portcullis/policy/WebDecision$Reason"), accessFlags := 16409, slot := 0, constantValue := 0 }, { name := "UNCOVERED", type := (.object "com/example/portcullis/portcullis/policy/WebDecision$Reason"), accessFlags := 16409, slot := 1, constantValue := 0 }, { name := "ROLE", type := (.object "com/example/portcullis/portcullis/policy/WebDecision$Reason"), accessFlags := 16409, slot := 2, constantValue := 0 }, { name := "NO_ROLE", type := (.object "com/example/portcullis/portcullis/policy/WebDecision$Reason"), accessFlags := 16409, slot := 3, constantValue := 0 }, { name := "EXCLUDED", type := (.object "com/example/portcullis/portcullis/policy/WebDecision$Reason"), accessFlags := 16409, slot := 4, constantValue := 0 }, { name := "LOGIN_REQUIRED", type := (.object "com/example/portcullis/portcullis/policy/WebDecision$Reason"), accessFlags := 16409, slot := 5, constantValue := 0 }, { name := "CONFIDENTIAL_REQUIRED", type := (.object "com/example/portcullis/portcullis/policy/WebDecision$Reason"), accessFlags := 16409, slot := 6, constantValue := 0 }, { name := "$VALUES", type := (.array (.object "com/example/portcullis/portcullis/policy/WebDecision$Reason")), accessFlags := 4122, slot := 7, constantValue := 0 }]
  methods := #[]
  instanceTypes := #[(.object "java/lang/String"), .int, .int]
  staticTypes := #[(.object "com/example/portcullis/portcullis/policy/WebDecision$Reason"), (.object "com/example/portcullis/portcullis/policy/WebDecision$Reason"), (.object "com/example/portcullis/portcullis/policy/WebDecision$Reason"), (.object "com/example/portcullis/portcullis/policy/WebDecision$Reason"), (.object "com/example/portcullis/portcullis/policy/WebDecision$Reason"), (.object "com/example/portcullis/portcullis/policy/WebDecision$Reason"), (.object "com/example/portcullis/portcullis/policy/WebDecision$Reason"), (.array (.object "com/example/portcullis/portcullis/policy/WebDecision$Reason"))]
  resolved := Array.replicate 74 none
  statics := some 1 }

def pool9 : Array CpInfo := pool [(1, .methodref 2 3), (0, .class_ 4), (0, .nameAndType 5 6), (0, u "java/lang/Object"), (0, u "<init>"), (0, u "()V"), (0, .class_ 8), (0, u "java/lang/Record")] 13

def k9c0 : Code := { maxStack := 1, maxLocals := 1, code := jdk_30_method_1_code, exceptionTable := #[], attributes := #[] }
def k9m0 : Method := { name := "<init>", desc := "()V", sig := { parameters := [], returnType := none }, accessFlags := 4, code := some k9c0 }
/-- java/lang/Record -/
def k9 : Class := { plain "java/lang/Record" (some 0) with
  accessFlags := 1057
  interfaces := #[]
  cf := some (fileOf pool9 7 #[] #[{ accessFlags := 4, nameIndex := 5, descriptorIndex := 6, attributes := #[] }] 1057 2 #[] #[])
  fields := #[]
  methods := #[k9m0]
  instanceTypes := #[]
  staticTypes := #[]
  resolved := Array.replicate 22 none
  statics := none }

def pool10 : Array CpInfo := pool [(1, .methodref 2 3), (0, .class_ 4), (0, .nameAndType 5 6), (0, u "java/lang/Record"), (0, u "<init>"), (0, u "()V"), (0, .string 8), (0, u "outcome"), (0, .methodref 10 11), (0, .class_ 12), (0, .nameAndType 13 14), (0, u "java/util/Objects"), (0, u "requireNonNull"), (0, u "(Ljava/lang/Object;Ljava/lang/String;)Ljava/lang/Object;"), (0, .string 16), (0, u "reason"), (0, .fieldref 18 19), (0, .class_ 20), (0, .nameAndType 21 22), (0, u "com/example/portcullis/portcullis/policy/WebDecision"), (0, u "pattern"), (0, u "Ljava/lang/String;"), (0, .fieldref 18 24), (0, .nameAndType 8 25), (0, u "Lcom/example/portcullis/portcullis/policy/WebDecision$Outcome;"), (0, .fieldref 18 27), (0, .nameAndType 16 28), (0, u "Lcom/example/portcullis/portcullis/policy/WebDecision$Reason;"), (0, .fieldref 30 31), (0, .class_ 32), (0, .nameAndType 33 25), (0, u "com/example/portcullis/portcullis/policy/WebDecision$Outcome"), (0, u "ALLOW"), (12, u "(Ljava/lang/String;Lcom/example/portcullis/portcullis/policy/WebDecision$Outcome;Lcom/example/portcullis/portcullis/policy/WebDecision$Reason;)V"), (3, u "allowed"), (0, u "()Z"), (9, .class_ 62), (0, u "com/example/portcullis/portcullis/policy/WebDecision$Reason")] 22

def k10c0 : Code := { maxStack := 2, maxLocals := 4, code := prog_65_method_1_code, exceptionTable := #[], attributes := #[] }
def k10m0 : Method := { name := "<init>", desc := "(Ljava/lang/String;Lcom/example/portcullis/portcullis/policy/WebDecision$Outcome;Lcom/example/portcullis/portcullis/policy/WebDecision$Reason;)V", sig := { parameters := [(.object "java/lang/String"), (.object "com/example/portcullis/portcullis/policy/WebDecision$Outcome"), (.object "com/example/portcullis/portcullis/policy/WebDecision$Reason")], returnType := none }, accessFlags := 1, code := some k10c0 }
def k10c1 : Code := { maxStack := 2, maxLocals := 1, code := prog_65_method_2_code, exceptionTable := #[], attributes := #[] }
def k10m1 : Method := { name := "allowed", desc := "()Z", sig := { parameters := [], returnType := some .boolean }, accessFlags := 1, code := some k10c1 }
/-- com/example/portcullis/portcullis/policy/WebDecision -/
def k10 : Class := { plain "com/example/portcullis/portcullis/policy/WebDecision" (some 9) with
  accessFlags := 49
  interfaces := #[]
  cf := some (fileOf pool10 18 #[.nestMembers #[61, 30]] #[{ accessFlags := 1, nameIndex := 5, descriptorIndex := 46, attributes := #[] }, { accessFlags := 1, nameIndex := 50, descriptorIndex := 51, attributes := #[] }] 49 2 #[] #[{ accessFlags := 18, nameIndex := 21, descriptorIndex := 22, attributes := #[] }, { accessFlags := 18, nameIndex := 8, descriptorIndex := 25, attributes := #[] }, { accessFlags := 18, nameIndex := 16, descriptorIndex := 28, attributes := #[] }])
  fields := #[{ name := "pattern", type := (.object "java/lang/String"), accessFlags := 18, slot := 0, constantValue := 0 }, { name := "outcome", type := (.object "com/example/portcullis/portcullis/policy/WebDecision$Outcome"), accessFlags := 18, slot := 1, constantValue := 0 }, { name := "reason", type := (.object "com/example/portcullis/portcullis/policy/WebDecision$Reason"), accessFlags := 18, slot := 2, constantValue := 0 }]
  methods := #[k10m0, k10m1]
  instanceTypes := #[(.object "java/lang/String"), (.object "com/example/portcullis/portcullis/policy/WebDecision$Outcome"), (.object "com/example/portcullis/portcullis/policy/WebDecision$Reason")]
  staticTypes := #[]
  resolved := Array.replicate 85 none
  statics := none }

def pool11 : Array CpInfo := pool [(2, .class_ 4), (1, u "java/lang/CharSequence"), (42, .class_ 48), (0, u "java/lang/CharSequence$1CodePointIterator"), (10, .class_ 60), (0, u "java/lang/CharSequence$1CharIterator"), (5, .class_ 67), (0, u "java/lang/Object")] 63

/-- java/lang/CharSequence -/
def k11 : Class := { plain "java/lang/CharSequence" (some 0) with
  accessFlags := 1537
  interfaces := #[]
  cf := some (fileOf pool11 2 #[.nestMembers #[47, 59]] #[] 1537 66 #[] #[])
  fields := #[]
  methods := #[]
  instanceTypes := #[]
  staticTypes := #[]
  resolved := Array.replicate 131 none
  statics := none }

def pool12 : Array CpInfo := pool [(1, .class_ 2), (0, u "java/lang/constant/ConstantDesc"), (0, .class_ 4), (0, u "java/lang/Object")] 32

/-- java/lang/constant/ConstantDesc -/
def k12 : Class := { plain "java/lang/constant/ConstantDesc" (some 0) with
  accessFlags := 1537
  interfaces := #[]
  cf := some (fileOf pool12 1 #[] #[] 1537 3 #[] #[])
  fields := #[]
  methods := #[]
  instanceTypes := #[]
  staticTypes := #[]
  resolved := Array.replicate 37 none
  statics := none }

def pool13 : Array CpInfo := pool [(1, .methodref 2 3), (0, .class_ 4), (0, .nameAndType 5 6), (0, u "java/lang/Object"), (0, u "<init>"), (0, u "()V"), (2, .fieldref 10 11), (0, .class_ 12), (0, .nameAndType 13 14), (0, u "java/lang/String"), (0, u "value"), (0, u "[B"), (0, .fieldref 10 16), (0, .nameAndType 17 18), (0, u "coder"), (0, u "B"), (2, u "hash"), (0, u "I"), (2, u "hashIsZero"), (0, u "Z"), (0, .methodref 10 28), (0, .nameAndType 5 29), (0, u "([CIILjava/lang/Void;)V"), (8, .fieldref 10 39), (0, .nameAndType 40 26), (0, u "COMPACT_STRINGS"), (1, .class_ 44), (1, u "java/lang/StringUTF16"), (0, u "compress"), (1, .methodref 42 48), (0, .nameAndType 49 50), (0, u "coderFromArrayLen"), (0, u "([BI)B"), (126, .methodref 42 178), (0, .nameAndType 45 179), (0, u "([CII)[B"), (395, .class_ 576), (0, u "java/lang/CharSequence"), (22, u "CASE_INSENSITIVE_ORDER"), (0, u "Ljava/util/Comparator;"), (409, u "([C)V"), (90, u "serialPersistentFields"), (0, u "[Ljava/io/ObjectStreamField;"), (0, .class_ 1104), (0, u "java/lang/String$CaseInsensitiveComparator"), (1, .class_ 1107), (0, u "java/io/Serializable"), (0, .class_ 1109), (0, u "java/lang/Comparable"), (0, .class_ 1111), (0, u "java/lang/constant/Constable"), (0, .class_ 1113), (0, u "java/lang/constant/ConstantDesc"), (2, u "serialVersionUID"), (0, u "J"), (3, u "REPL"), (0, u "C"), (2, u "LATIN1"), (1, u "UTF16")] 323

def k13m0 : Method := { name := "<init>", desc := "()V", sig := { parameters := [], returnType := none }, accessFlags := 1, code := none }
def k13c1 : Code := { maxStack := 5, maxLocals := 2, code := jdk_42_method_3_code, exceptionTable := #[], attributes := #[] }
def k13m1 : Method := { name := "<init>", desc := "([C)V", sig := { parameters := [(.array .char)], returnType := none }, accessFlags := 1, code := some k13c1 }
def k13c2 : Code := { maxStack := 4, maxLocals := 6, code := jdk_42_method_149_code, exceptionTable := #[], attributes := #[] }
def k13m2 : Method := { name := "<init>", desc := "([CIILjava/lang/Void;)V", sig := { parameters := [(.array .char), .int, .int, (.object "java/lang/Void")], returnType := none }, accessFlags := 2, code := some k13c2 }
/-- java/lang/String -/
def k13 : Class := { plain "java/lang/String" (some 0) with
  accessFlags := 49
  interfaces := #[4, 3, 11, 2, 12]
  cf := some (fileOf pool13 10 #[.nestMembers #[1103]] #[{ accessFlags := 1, nameIndex := 5, descriptorIndex := 6, attributes := #[] }, { accessFlags := 1, nameIndex := 5, descriptorIndex := 1010, attributes := #[] }, { accessFlags := 2, nameIndex := 5, descriptorIndex := 29, attributes := #[] }] 49 2 #[1106, 1108, 575, 1110, 1112] #[{ accessFlags := 18, nameIndex := 13, descriptorIndex := 14, attributes := #[] }, { accessFlags := 18, nameIndex := 17, descriptorIndex := 18, attributes := #[] }, { accessFlags := 2, nameIndex := 21, descriptorIndex := 22, attributes := #[] }, { accessFlags := 2, nameIndex := 25, descriptorIndex := 26, attributes := #[] }, { accessFlags := 26, nameIndex := 1116, descriptorIndex := 1117, attributes := #[] }, { accessFlags := 24, nameIndex := 40, descriptorIndex := 26, attributes := #[] }, { accessFlags := 26, nameIndex := 1101, descriptorIndex := 1102, attributes := #[] }, { accessFlags := 26, nameIndex := 1121, descriptorIndex := 1122, attributes := #[] }, { accessFlags := 25, nameIndex := 599, descriptorIndex := 600, attributes := #[] }, { accessFlags := 24, nameIndex := 1125, descriptorIndex := 18, attributes := #[] }, { accessFlags := 24, nameIndex := 1127, descriptorIndex := 18, attributes := #[] }])
  fields := #[{ name := "value", type := (.array .byte), accessFlags := 18, slot := 0, constantValue := 0 }, { name := "coder", type := .byte, accessFlags := 18, slot := 1, constantValue := 0 }, { name := "hash", type := .int, accessFlags := 2, slot := 2, constantValue := 0 }, { name := "hashIsZero", type := .boolean, accessFlags := 2, slot := 3, constantValue := 0 }, { name := "serialVersionUID", type := .long, accessFlags := 26, slot := 0, constantValue := 0 }, { name := "COMPACT_STRINGS", type := .boolean, accessFlags := 24, slot := 1, constantValue := 0 }, { name := "serialPersistentFields", type := (.array (.object "java/io/ObjectStreamField")), accessFlags := 26, slot := 2, constantValue := 0 }, { name := "REPL", type := .char, accessFlags := 26, slot := 3, constantValue := 0 }, { name := "CASE_INSENSITIVE_ORDER", type := (.object "java/util/Comparator"), accessFlags := 25, slot := 4, constantValue := 0 }, { name := "LATIN1", type := .byte, accessFlags := 24, slot := 5, constantValue := 0 }, { name := "UTF16", type := .byte, accessFlags := 24, slot := 6, constantValue := 0 }]
  methods := #[k13m0, k13m1, k13m2]
  instanceTypes := #[(.array .byte), .byte, .int, .boolean]
  staticTypes := #[.long, .boolean, (.array (.object "java/io/ObjectStreamField")), .char, (.object "java/util/Comparator"), .byte, .byte]
  resolved := Array.replicate 1451 none
  statics := some 2 }

def pool14 : Array CpInfo := pool [(2, .class_ 4), (1, u "java/lang/Object"), (0, u "<init>"), (0, u "()V"), (35, .class_ 44), (1, u "java/util/Objects"), (0, u "requireNonNull"), (48, u "(Ljava/lang/Object;Ljava/lang/String;)Ljava/lang/Object;")] 89

def k14m0 : Method := { name := "<init>", desc := "()V", sig := { parameters := [], returnType := none }, accessFlags := 2, code := none }
def k14c1 : Code := { maxStack := 3, maxLocals := 2, code := jdk_31_method_11_code, exceptionTable := #[], attributes := #[] }
def k14m1 : Method := { name := "requireNonNull", desc := "(Ljava/lang/Object;Ljava/lang/String;)Ljava/lang/Object;", sig := { parameters := [(.object "java/lang/Object"), (.object "java/lang/String")], returnType := some (.object "java/lang/Object") }, accessFlags := 9, code := some k14c1 }
/-- java/util/Objects -/
def k14 : Class := { plain "java/util/Objects" (some 0) with
  accessFlags := 49
  interfaces := #[]
  cf := some (fileOf pool14 42 #[] #[{ accessFlags := 2, nameIndex := 5, descriptorIndex := 6, attributes := #[] }, { accessFlags := 9, nameIndex := 45, descriptorIndex := 94, attributes := #[] }] 49 2 #[] #[])
  fields := #[]
  methods := #[k14m0, k14m1]
  instanceTypes := #[]
  staticTypes := #[]
  resolved := Array.replicate 184 none
  statics := none }

def pool15 : Array CpInfo := pool [(6, .class_ 8), (1, u "java/lang/Object"), (0, u "<init>"), (0, u "()V"), (1, .class_ 14), (1, u "java/lang/StringUTF16"), (31, u "$assertionsDisabled"), (0, u "Z"), (13, u "HI_BYTE_SHIFT"), (0, u "I"), (2, u "LO_BYTE_SHIFT"), (49, .methodref 12 116), (0, .nameAndType 117 118), (0, u "compress"), (0, u "([CI[BII)I"), (3, u "([CII)[B"), (138, u "coderFromArrayLen"), (0, u "([BI)B"), (106, .class_ 371), (1, u "java/lang/StringUTF16$LinesSpliterator"), (58, u "MAX_LENGTH"), (196, .class_ 628), (0, u "java/lang/StringUTF16$CodePointsSpliterator"), (0, .class_ 630), (0, u "java/lang/StringUTF16$CharsSpliterator")] 4

def k15m0 : Method := { name := "<init>", desc := "()V", sig := { parameters := [], returnType := none }, accessFlags := 0, code := none }
def k15c1 : Code := { maxStack := 2, maxLocals := 2, code := jdk_52_method_15_code, exceptionTable := #[], attributes := #[] }
def k15m1 : Method := { name := "coderFromArrayLen", desc := "([BI)B", sig := { parameters := [(.array .byte), .int], returnType := some .byte }, accessFlags := 8, code := some k15c1 }
def k15c2 : Code := { maxStack := 5, maxLocals := 6, code := jdk_52_method_16_code, exceptionTable := #[], attributes := #[] }
def k15m2 : Method := { name := "compress", desc := "([CII)[B", sig := { parameters := [(.array .char), .int, .int], returnType := some (.array .byte) }, accessFlags := 9, code := some k15c2 }
def k15c3 : Code := { maxStack := 3, maxLocals := 7, code := jdk_52_method_21_code, exceptionTable := #[], attributes := #[] }
def k15m3 : Method := { name := "compress", desc := "([CI[BII)I", sig := { parameters := [(.array .char), .int, (.array .byte), .int, .int], returnType := some .int }, accessFlags := 9, code := some k15c3 }
/-- java/lang/StringUTF16 -/
def k15 : Class := { plain "java/lang/StringUTF16" (some 0) with
  accessFlags := 48
  interfaces := #[]
  cf := some (fileOf pool15 12 #[.nestMembers #[627, 629, 369]] #[{ accessFlags := 0, nameIndex := 9, descriptorIndex := 10, attributes := #[] }, { accessFlags := 8, nameIndex := 261, descriptorIndex := 262, attributes := #[] }, { accessFlags := 9, nameIndex := 117, descriptorIndex := 122, attributes := #[] }, { accessFlags := 9, nameIndex := 117, descriptorIndex := 118, attributes := #[] }] 48 6 #[] #[{ accessFlags := 26, nameIndex := 61, descriptorIndex := 62, attributes := #[] }, { accessFlags := 26, nameIndex := 65, descriptorIndex := 62, attributes := #[] }, { accessFlags := 24, nameIndex := 430, descriptorIndex := 62, attributes := #[] }, { accessFlags := 4120, nameIndex := 46, descriptorIndex := 47, attributes := #[] }])
  fields := #[{ name := "HI_BYTE_SHIFT", type := .int, accessFlags := 26, slot := 0, constantValue := 0 }, { name := "LO_BYTE_SHIFT", type := .int, accessFlags := 26, slot := 1, constantValue := 0 }, { name := "MAX_LENGTH", type := .int, accessFlags := 24, slot := 2, constantValue := 0 }, { name := "$assertionsDisabled", type := .boolean, accessFlags := 4120, slot := 3, constantValue := 0 }]
  methods := #[k15m0, k15m1, k15m2, k15m3]
  instanceTypes := #[]
  staticTypes := #[.int, .int, .int, .boolean]
  resolved := Array.replicate 635 none
  statics := none }

def pool16 : Array CpInfo := pool [(4, .class_ 6), (1, u "java/lang/Object"), (0, u "<init>"), (0, u "()V"), (5, .class_ 16), (1, u "java/lang/StringLatin1"), (104, u "$assertionsDisabled"), (0, u "Z"), (98, .class_ 223), (1, u "java/lang/StringLatin1$LinesSpliterator"), (166, .class_ 391), (0, u "java/lang/StringLatin1$CharsSpliterator")] 3

def k16m0 : Method := { name := "<init>", desc := "()V", sig := { parameters := [], returnType := none }, accessFlags := 0, code := none }
/-- java/lang/StringLatin1 -/
def k16 : Class := { plain "java/lang/StringLatin1" (some 0) with
  accessFlags := 48
  interfaces := #[]
  cf := some (fileOf pool16 14 #[.nestMembers #[390, 221]] #[{ accessFlags := 0, nameIndex := 7, descriptorIndex := 8, attributes := #[] }] 48 4 #[] #[{ accessFlags := 4120, nameIndex := 121, descriptorIndex := 122, attributes := #[] }])
  fields := #[{ name := "$assertionsDisabled", type := .boolean, accessFlags := 4120, slot := 0, constantValue := 0 }]
  methods := #[k16m0]
  instanceTypes := #[]
  staticTypes := #[.boolean]
  resolved := Array.replicate 395 none
  statics := none }

def pool17 : Array CpInfo := pool [(2, .class_ 4), (1, u "java/lang/Object"), (0, u "<init>"), (0, u "()V"), (17, .class_ 26), (1, u "jdk/internal/util/Preconditions"), (28, .class_ 56), (0, u "jdk/internal/util/Preconditions$4"), (57, .class_ 115), (0, u "jdk/internal/util/Preconditions$1"), (7, u "SIOOBE_FORMATTER"), (0, u "Ljava/util/function/BiFunction;"), (0, .class_ 126), (0, u "jdk/internal/util/Preconditions$2"), (3, u "AIOOBE_FORMATTER"), (0, .class_ 132), (0, u "jdk/internal/util/Preconditions$3"), (3, u "IOOBE_FORMATTER")] 57

def k17m0 : Method := { name := "<init>", desc := "()V", sig := { parameters := [], returnType := none }, accessFlags := 1, code := none }
/-- jdk/internal/util/Preconditions -/
def k17 : Class := { plain "jdk/internal/util/Preconditions" (some 0) with
  accessFlags := 33
  interfaces := #[]
  cf := some (fileOf pool17 24 #[.nestMembers #[55, 131, 125, 114]] #[{ accessFlags := 1, nameIndex := 5, descriptorIndex := 6, attributes := #[] }] 33 2 #[] #[{ accessFlags := 25, nameIndex := 123, descriptorIndex := 124, attributes := #[] }, { accessFlags := 25, nameIndex := 130, descriptorIndex := 124, attributes := #[] }, { accessFlags := 25, nameIndex := 136, descriptorIndex := 124, attributes := #[] }])
  fields := #[{ name := "SIOOBE_FORMATTER", type := (.object "java/util/function/BiFunction"), accessFlags := 25, slot := 0, constantValue := 0 }, { name := "AIOOBE_FORMATTER", type := (.object "java/util/function/BiFunction"), accessFlags := 25, slot := 1, constantValue := 0 }, { name := "IOOBE_FORMATTER", type := (.object "java/util/function/BiFunction"), accessFlags := 25, slot := 2, constantValue := 0 }]
  methods := #[k17m0]
  instanceTypes := #[]
  staticTypes := #[(.object "java/util/function/BiFunction"), (.object "java/util/function/BiFunction"), (.object "java/util/function/BiFunction")]
  resolved := Array.replicate 194 none
  statics := some 3 }

def pool18 : Array CpInfo := pool [(9, u "<init>"), (6, .class_ 18), (1, u "java/lang/Object"), (0, u "()V"), (1, .class_ 23), (1, u "jdk/internal/util/ArraysSupport"), (0, u "LOG2_ARRAY_LONG_INDEX_SCALE"), (0, u "I"), (2, u "U"), (0, u "Ljdk/internal/misc/Unsafe;"), (8, u "BIG_ENDIAN"), (0, u "Z"), (8, u "LOG2_BYTE_BIT_SIZE"), (4, u "LOG2_ARRAY_INT_INDEX_SCALE"), (54, u "JLA"), (0, u "Ljdk/internal/access/JavaLangAccess;"), (11, u "LOG2_ARRAY_BOOLEAN_INDEX_SCALE"), (9, u "LOG2_ARRAY_BYTE_INDEX_SCALE"), (5, u "LOG2_ARRAY_CHAR_INDEX_SCALE"), (5, u "LOG2_ARRAY_SHORT_INDEX_SCALE"), (18, u "LOG2_ARRAY_FLOAT_INDEX_SCALE"), (24, u "LOG2_ARRAY_DOUBLE_INDEX_SCALE"), (89, u "T_BOOLEAN"), (2, u "T_CHAR"), (1, u "T_FLOAT"), (1, u "T_DOUBLE"), (1, u "T_BYTE"), (1, u "T_SHORT"), (1, u "T_INT"), (1, u "T_LONG"), (1, u "SOFT_MAX_ARRAY_LENGTH")] 83

def k18m0 : Method := { name := "<init>", desc := "()V", sig := { parameters := [], returnType := none }, accessFlags := 2, code := none }
/-- jdk/internal/util/ArraysSupport -/
def k18 : Class := { plain "jdk/internal/util/ArraysSupport" (some 0) with
  accessFlags := 33
  interfaces := #[]
  cf := some (fileOf pool18 21 #[] #[{ accessFlags := 2, nameIndex := 9, descriptorIndex := 19, attributes := #[] }] 33 16 #[] #[{ accessFlags := 24, nameIndex := 28, descriptorIndex := 29, attributes := #[] }, { accessFlags := 26, nameIndex := 38, descriptorIndex := 39, attributes := #[] }, { accessFlags := 25, nameIndex := 121, descriptorIndex := 25, attributes := #[] }, { accessFlags := 25, nameIndex := 131, descriptorIndex := 25, attributes := #[] }, { accessFlags := 25, nameIndex := 137, descriptorIndex := 25, attributes := #[] }, { accessFlags := 25, nameIndex := 143, descriptorIndex := 25, attributes := #[] }, { accessFlags := 25, nameIndex := 53, descriptorIndex := 25, attributes := #[] }, { accessFlags := 25, nameIndex := 24, descriptorIndex := 25, attributes := #[] }, { accessFlags := 25, nameIndex := 162, descriptorIndex := 25, attributes := #[] }, { accessFlags := 25, nameIndex := 187, descriptorIndex := 25, attributes := #[] }, { accessFlags := 26, nameIndex := 48, descriptorIndex := 25, attributes := #[] }, { accessFlags := 25, nameIndex := 277, descriptorIndex := 25, attributes := #[] }, { accessFlags := 25, nameIndex := 280, descriptorIndex := 25, attributes := #[] }, { accessFlags := 25, nameIndex := 282, descriptorIndex := 25, attributes := #[] }, { accessFlags := 25, nameIndex := 284, descriptorIndex := 25, attributes := #[] }, { accessFlags := 25, nameIndex := 286, descriptorIndex := 25, attributes := #[] }, { accessFlags := 25, nameIndex := 288, descriptorIndex := 25, attributes := #[] }, { accessFlags := 25, nameIndex := 290, descriptorIndex := 25, attributes := #[] }, { accessFlags := 25, nameIndex := 292, descriptorIndex := 25, attributes := #[] }, { accessFlags := 26, nameIndex := 108, descriptorIndex := 109, attributes := #[] }, { accessFlags := 25, nameIndex := 294, descriptorIndex := 25, attributes := #[] }])
  fields := #[{ name := "U", type := (.object "jdk/internal/misc/Unsafe"), accessFlags := 24, slot := 0, constantValue := 0 }, { name := "BIG_ENDIAN", type := .boolean, accessFlags := 26, slot := 1, constantValue := 0 }, { name := "LOG2_ARRAY_BOOLEAN_INDEX_SCALE", type := .int, accessFlags := 25, slot := 2, constantValue := 0 }, { name := "LOG2_ARRAY_BYTE_INDEX_SCALE", type := .int, accessFlags := 25, slot := 3, constantValue := 0 }, { name := "LOG2_ARRAY_CHAR_INDEX_SCALE", type := .int, accessFlags := 25, slot := 4, constantValue := 0 }, { name := "LOG2_ARRAY_SHORT_INDEX_SCALE", type := .int, accessFlags := 25, slot := 5, constantValue := 0 }, { name := "LOG2_ARRAY_INT_INDEX_SCALE", type := .int, accessFlags := 25, slot := 6, constantValue := 0 }, { name := "LOG2_ARRAY_LONG_INDEX_SCALE", type := .int, accessFlags := 25, slot := 7, constantValue := 0 }, { name := "LOG2_ARRAY_FLOAT_INDEX_SCALE", type := .int, accessFlags := 25, slot := 8, constantValue := 0 }, { name := "LOG2_ARRAY_DOUBLE_INDEX_SCALE", type := .int, accessFlags := 25, slot := 9, constantValue := 0 }, { name := "LOG2_BYTE_BIT_SIZE", type := .int, accessFlags := 26, slot := 10, constantValue := 0 }, { name := "T_BOOLEAN", type := .int, accessFlags := 25, slot := 11, constantValue := 0 }, { name := "T_CHAR", type := .int, accessFlags := 25, slot := 12, constantValue := 0 }, { name := "T_FLOAT", type := .int, accessFlags := 25, slot := 13, constantValue := 0 }, { name := "T_DOUBLE", type := .int, accessFlags := 25, slot := 14, constantValue := 0 }, { name := "T_BYTE", type := .int, accessFlags := 25, slot := 15, constantValue := 0 }, { name := "T_SHORT", type := .int, accessFlags := 25, slot := 16, constantValue := 0 }, { name := "T_INT", type := .int, accessFlags := 25, slot := 17, constantValue := 0 }, { name := "T_LONG", type := .int, accessFlags := 25, slot := 18, constantValue := 0 }, { name := "JLA", type := (.object "jdk/internal/access/JavaLangAccess"), accessFlags := 26, slot := 19, constantValue := 0 }, { name := "SOFT_MAX_ARRAY_LENGTH", type := .int, accessFlags := 25, slot := 20, constantValue := 0 }]
  methods := #[k18m0]
  instanceTypes := #[]
  staticTypes := #[(.object "jdk/internal/misc/Unsafe"), .boolean, .int, .int, .int, .int, .int, .int, .int, .int, .int, .int, .int, .int, .int, .int, .int, .int, .int, (.object "jdk/internal/access/JavaLangAccess"), .int]
  resolved := Array.replicate 378 none
  statics := none }

def pool19 : Array CpInfo := pool [(1, u "java/lang/Cloneable"), (0, .class_ 1), (0, u "java/lang/Object"), (0, .class_ 3)] 3

/-- java/lang/Cloneable -/
def k19 : Class := { plain "java/lang/Cloneable" (some 0) with
  accessFlags := 1537
  interfaces := #[]
  cf := some (fileOf pool19 2 #[] #[] 1537 4 #[] #[])
  fields := #[]
  methods := #[]
  instanceTypes := #[]
  staticTypes := #[]
  resolved := Array.replicate 8 none
  statics := none }

/-- the primitive byte -/
def k20 : Class := { plain "byte" none with kind := .primitive 'B', accessFlags := 0x411 }
/-- [B -/
def k21 : Class := { plain "[B" (some 0) with kind := .array 20 .byte, interfaces := #[19, 4], accessFlags := 1041 }

/-- the primitive char -/
def k22 : Class := { plain "char" none with kind := .primitive 'C', accessFlags := 0x411 }
/-- [C -/
def k23 : Class := { plain "[C" (some 0) with kind := .array 22 .char, interfaces := #[19, 4], accessFlags := 1041 }

/-- the primitive int -/
def k24 : Class := { plain "int" none with kind := .primitive 'I', accessFlags := 0x411 }
/-- [I -/
def k25 : Class := { plain "[I" (some 0) with kind := .array 24 .int, interfaces := #[19, 4], accessFlags := 1041 }

def heap : Heap := #[{ cls := 7, slots := #[.ref 4, .ref 14, .ref 11, .ref 6, .null], vm := .statics 7 },
  { cls := 8, slots := #[.ref 9, .ref 10, .ref 8, .ref 5, .ref 7, .ref 12, .ref 13, .null], vm := .statics 8 },
  { cls := 13, slots := #[.long 0, .int 1, .null, .int 0, .null, .int 0, .int 0], vm := .statics 13 },
  { cls := 17, slots := #[.null, .null, .null], vm := .statics 17 },
  { cls := 7, slots := #[.null, .int 0, .int 0], vm := .none },
  { cls := 8, slots := #[.null, .int 0, .int 0], vm := .none },
  { cls := 7, slots := #[.null, .int 3, .int 0], vm := .none },
  { cls := 8, slots := #[.null, .int 0, .int 0], vm := .none },
  { cls := 8, slots := #[.null, .int 0, .int 0], vm := .none },
  { cls := 8, slots := #[.null, .int 0, .int 0], vm := .none },
  { cls := 8, slots := #[.null, .int 0, .int 0], vm := .none },
  { cls := 7, slots := #[.null, .int 2, .int 0], vm := .none },
  { cls := 8, slots := #[.null, .int 0, .int 0], vm := .none },
  { cls := 8, slots := #[.null, .int 0, .int 0], vm := .none },
  { cls := 7, slots := #[.null, .int 1, .int 0], vm := .none }]
def classes : Array Class := #[k0, k1, k2, k3, k4, k5, k6, k7, k8, k9, k10, k11, k12, k13, k14, k15, k16, k17, k18, k19, k20, k21, k22, k23, k24, k25]
def interned : List (Array UInt16 × Addr) := []
def slotsUsed : Nat := 56
def theMethod : MethodId := ⟨1, 3⟩
def args0 : Array Value := #[.int 5, .int 6, .int 3, .int 66, .int 67]
def aboutOver (below : List Frame) : State where
  vm := { classes := classes, interned := interned.toArray }
  heap := heap
  slotsUsed := slotsUsed
  threads := #[{ frames := .invoking theMethod args0 :: below }]
def below0 : List Frame := [.native { method := ⟨0, 0⟩, args := #[] }]
def about1 : State := aboutOver below0
def p0 : Program := .bare "" "" ""
def e0 : Env := launch0.env 0 0 0
theorem w_frames : about1.frames = Frame.invoking theMethod args0 :: below0 := rfl
set_option maxRecDepth 65536 in
theorem w_args : argsFit about1.vm theMethod args0 = true := by decide +kernel
set_option maxRecDepth 65536 in
theorem w_heap : heapFits about1 = true := by decide +kernel
set_option maxRecDepth 65536 in
theorem w_runnable : about1.curStatus? = some .runnable := by decide +kernel
set_option maxRecDepth 65536 in
theorem w_alone : about1.alone = true := by decide +kernel
set_option maxRecDepth 65536 in
theorem w_named : about1.methodNamed? x = some theMethod := by decide +kernel
set_option maxRecDepth 65536 in
theorem w_hears : about1.hears theMethod below0 = true := by decide +kernel
set_option maxRecDepth 65536 in
theorem w_ripe : about1.ripe theMethod args0 below0 = true := by decide +kernel
theorem w_running : about1.status = .running := rfl
set_option maxRecDepth 65536 in
theorem w_room : about1.hasRoom e0.platform room_1 = true :=
  launch0.hasRoom_least _ room_1 (by decide +kernel) (by decide +kernel) (by decide +kernel) (by decide +kernel) (by decide +kernel) (by decide +kernel)
theorem allAtoms_all (ts : List Jvm.Cond) (a : Array Jvm.Value) (st : Jvm.State) : (allAtoms ts).before a st = ts.all (fun c => c.before a st) := by
  induction ts with
  | nil => rfl
  | cons c t ih =>
    show (Jvm.Cond.and c (allAtoms t)).before a st = _
    rw [Jvm.Cond.before_and, ih, List.all_cons]
def words1 : List Jvm.Cond := Jvm.Cond.code x code maxLocals ret :: tables_1
/-- a 'code' word, met by the world's own term for the bytes: nothing is compared byte by byte -/
theorem code_word {y : MethodName} {bytes : ByteArray} {mx : Nat} {rt : Option FieldType} {a : Array Value} {s : State} {m : MethodId} {meth : Method} {c : Code} (h1 : s.methodNamed? y = some m) (h2 : s.vm.method? m = some meth) (h3 : meth.code = some c) (h4 : c.code = bytes)
    (h5 : (c.maxLocals == mx && c.exceptionTable.isEmpty && decide (c.maxStack ≤ mostOperands) && decide (meth.sig.returnType = rt) && !meth.locks && decide (parseMethodDescriptor y.desc = some meth.sig)) = true) : (Jvm.Cond.code y bytes mx rt).before a s = true := by
  simp only [Bool.and_eq_true, beq_iff_eq, Bool.not_eq_true', decide_eq_true_eq] at h5
  obtain ⟨⟨⟨⟨⟨g1, g2⟩, g3⟩, g4⟩, g5⟩, g6⟩ := h5
  simp [Cond.before, Cond.holds, Cond.value, h1, h2, h3, h4, g1, g2, g3, g4, g5, g6]
def isCode : Jvm.Cond → Bool
  | .code _ _ _ _ => true
  | _ => false
theorem all_split {L : List Jvm.Cond} {P : Jvm.Cond → Bool} (h1 : L.all (fun c => isCode c || P c) = true) (h2 : ∀ c ∈ L.filter isCode, P c = true) : L.all P = true := by
  refine List.all_eq_true.mpr fun c hc => ?_
  have h := List.all_eq_true.mp h1 c hc
  rcases Bool.eq_false_or_eq_true (isCode c) with hi | hi
  · exact h2 c (List.mem_filter.mpr ⟨hc, hi⟩)
  · simpa [hi] using h
set_option maxRecDepth 65536 in
theorem w_c0 : (Jvm.Cond.code x code maxLocals ret).before args0 about1 = true := code_word (m := ⟨1, 3⟩) (meth := k1m3) (c := k1c3) (by decide +kernel) rfl rfl rfl (by decide +kernel)
set_option maxRecDepth 65536 in
theorem w_c1 : (Jvm.Cond.code ({ cls := "com/example/portcullis/portcullis/policy/WebDecisionAllowedPinLaw", name := "outcomeOf", desc := "(I)Lcom/example/portcullis/portcullis/policy/WebDecision$Outcome;" } : Jvm.MethodName) method_2_code (1 : Nat) (Option.some (Jvm.ClassFile.FieldType.object "com/example/portcullis/portcullis/policy/WebDecision$Outcome"))).before args0 about1 = true := code_word (m := ⟨1, 1⟩) (meth := k1m1) (c := k1c1) (by decide +kernel) rfl rfl rfl (by decide +kernel)
set_option maxRecDepth 65536 in
theorem w_c2 : (Jvm.Cond.code ({ cls := "com/example/portcullis/portcullis/policy/WebDecisionAllowedPinLaw", name := "reasonOf", desc := "(I)Lcom/example/portcullis/portcullis/policy/WebDecision$Reason;" } : Jvm.MethodName) method_3_code (1 : Nat) (Option.some (Jvm.ClassFile.FieldType.object "com/example/portcullis/portcullis/policy/WebDecision$Reason"))).before args0 about1 = true := code_word (m := ⟨1, 2⟩) (meth := k1m2) (c := k1c2) (by decide +kernel) rfl rfl rfl (by decide +kernel)
set_option maxRecDepth 65536 in
theorem w_c3 : (Jvm.Cond.code ({ cls := "com/example/portcullis/portcullis/policy/WebDecision", name := "<init>", desc := "(Ljava/lang/String;Lcom/example/portcullis/portcullis/policy/WebDecision$Outcome;Lcom/example/portcullis/portcullis/policy/WebDecision$Reason;)V" } : Jvm.MethodName) prog_65_method_1_code (4 : Nat) (Option.none : Option Jvm.ClassFile.FieldType)).before args0 about1 = true := code_word (m := ⟨10, 0⟩) (meth := k10m0) (c := k10c0) (by decide +kernel) rfl rfl rfl (by decide +kernel)
set_option maxRecDepth 65536 in
theorem w_c4 : (Jvm.Cond.code ({ cls := "java/lang/Record", name := "<init>", desc := "()V" } : Jvm.MethodName) jdk_30_method_1_code (1 : Nat) (Option.none : Option Jvm.ClassFile.FieldType)).before args0 about1 = true := code_word (m := ⟨9, 0⟩) (meth := k9m0) (c := k9c0) (by decide +kernel) rfl rfl rfl (by decide +kernel)
set_option maxRecDepth 65536 in
theorem w_c5 : (Jvm.Cond.code ({ cls := "java/lang/Object", name := "<init>", desc := "()V" } : Jvm.MethodName) object_method_1_code (1 : Nat) (Option.none : Option Jvm.ClassFile.FieldType)).before args0 about1 = true := code_word (m := ⟨0, 0⟩) (meth := k0m0) (c := k0c0) (by decide +kernel) rfl rfl rfl (by decide +kernel)
set_option maxRecDepth 65536 in
theorem w_c6 : (Jvm.Cond.code ({ cls := "java/util/Objects", name := "requireNonNull", desc := "(Ljava/lang/Object;Ljava/lang/String;)Ljava/lang/Object;" } : Jvm.MethodName) jdk_31_method_11_code (2 : Nat) (Option.some (Jvm.ClassFile.FieldType.object "java/lang/Object"))).before args0 about1 = true := code_word (m := ⟨14, 1⟩) (meth := k14m1) (c := k14c1) (by decide +kernel) rfl rfl rfl (by decide +kernel)
set_option maxRecDepth 65536 in
theorem w_c7 : (Jvm.Cond.code ({ cls := "com/example/portcullis/portcullis/policy/WebDecision", name := "allowed", desc := "()Z" } : Jvm.MethodName) prog_65_method_2_code (1 : Nat) (Option.some Jvm.ClassFile.FieldType.boolean)).before args0 about1 = true := code_word (m := ⟨10, 1⟩) (meth := k10m1) (c := k10c1) (by decide +kernel) rfl rfl rfl (by decide +kernel)
set_option maxRecDepth 65536 in
theorem w_c8 : (Jvm.Cond.code ({ cls := "java/lang/String", name := "<init>", desc := "([C)V" } : Jvm.MethodName) jdk_42_method_3_code (2 : Nat) (Option.none : Option Jvm.ClassFile.FieldType)).before args0 about1 = true := code_word (m := ⟨13, 1⟩) (meth := k13m1) (c := k13c1) (by decide +kernel) rfl rfl rfl (by decide +kernel)
set_option maxRecDepth 65536 in
theorem w_c9 : (Jvm.Cond.code ({ cls := "java/lang/String", name := "<init>", desc := "([CIILjava/lang/Void;)V" } : Jvm.MethodName) jdk_42_method_149_code (6 : Nat) (Option.none : Option Jvm.ClassFile.FieldType)).before args0 about1 = true := code_word (m := ⟨13, 2⟩) (meth := k13m2) (c := k13c2) (by decide +kernel) rfl rfl rfl (by decide +kernel)
set_option maxRecDepth 65536 in
theorem w_c10 : (Jvm.Cond.code ({ cls := "java/lang/StringUTF16", name := "compress", desc := "([CII)[B" } : Jvm.MethodName) jdk_52_method_16_code (6 : Nat) (Option.some (Jvm.ClassFile.FieldType.array Jvm.ClassFile.FieldType.byte))).before args0 about1 = true := code_word (m := ⟨15, 2⟩) (meth := k15m2) (c := k15c2) (by decide +kernel) rfl rfl rfl (by decide +kernel)
set_option maxRecDepth 65536 in
theorem w_c11 : (Jvm.Cond.code ({ cls := "java/lang/StringUTF16", name := "compress", desc := "([CI[BII)I" } : Jvm.MethodName) jdk_52_method_21_code (7 : Nat) (Option.some Jvm.ClassFile.FieldType.int)).before args0 about1 = true := code_word (m := ⟨15, 3⟩) (meth := k15m3) (c := k15c3) (by decide +kernel) rfl rfl rfl (by decide +kernel)
set_option maxRecDepth 65536 in
theorem w_c12 : (Jvm.Cond.code ({ cls := "java/lang/StringUTF16", name := "coderFromArrayLen", desc := "([BI)B" } : Jvm.MethodName) jdk_52_method_15_code (2 : Nat) (Option.some Jvm.ClassFile.FieldType.byte)).before args0 about1 = true := code_word (m := ⟨15, 1⟩) (meth := k15m1) (c := k15c1) (by decide +kernel) rfl rfl rfl (by decide +kernel)
def codes1 : List Jvm.Cond := [Jvm.Cond.code x code maxLocals ret, Jvm.Cond.code ({ cls := "com/example/portcullis/portcullis/policy/WebDecisionAllowedPinLaw", name := "outcomeOf", desc := "(I)Lcom/example/portcullis/portcullis/policy/WebDecision$Outcome;" } : Jvm.MethodName) method_2_code (1 : Nat) (Option.some (Jvm.ClassFile.FieldType.object "com/example/portcullis/portcullis/policy/WebDecision$Outcome")), Jvm.Cond.code ({ cls := "com/example/portcullis/portcullis/policy/WebDecisionAllowedPinLaw", name := "reasonOf", desc := "(I)Lcom/example/portcullis/portcullis/policy/WebDecision$Reason;" } : Jvm.MethodName) method_3_code (1 : Nat) (Option.some (Jvm.ClassFile.FieldType.object "com/example/portcullis/portcullis/policy/WebDecision$Reason")), Jvm.Cond.code ({ cls := "com/example/portcullis/portcullis/policy/WebDecision", name := "<init>", desc := "(Ljava/lang/String;Lcom/example/portcullis/portcullis/policy/WebDecision$Outcome;Lcom/example/portcullis/portcullis/policy/WebDecision$Reason;)V" } : Jvm.MethodName) prog_65_method_1_code (4 : Nat) (Option.none : Option Jvm.ClassFile.FieldType), Jvm.Cond.code ({ cls := "java/lang/Record", name := "<init>", desc := "()V" } : Jvm.MethodName) jdk_30_method_1_code (1 : Nat) (Option.none : Option Jvm.ClassFile.FieldType), Jvm.Cond.code ({ cls := "java/lang/Object", name := "<init>", desc := "()V" } : Jvm.MethodName) object_method_1_code (1 : Nat) (Option.none : Option Jvm.ClassFile.FieldType), Jvm.Cond.code ({ cls := "java/util/Objects", name := "requireNonNull", desc := "(Ljava/lang/Object;Ljava/lang/String;)Ljava/lang/Object;" } : Jvm.MethodName) jdk_31_method_11_code (2 : Nat) (Option.some (Jvm.ClassFile.FieldType.object "java/lang/Object")), Jvm.Cond.code ({ cls := "com/example/portcullis/portcullis/policy/WebDecision", name := "allowed", desc := "()Z" } : Jvm.MethodName) prog_65_method_2_code (1 : Nat) (Option.some Jvm.ClassFile.FieldType.boolean), Jvm.Cond.code ({ cls := "java/lang/String", name := "<init>", desc := "([C)V" } : Jvm.MethodName) jdk_42_method_3_code (2 : Nat) (Option.none : Option Jvm.ClassFile.FieldType), Jvm.Cond.code ({ cls := "java/lang/String", name := "<init>", desc := "([CIILjava/lang/Void;)V" } : Jvm.MethodName) jdk_42_method_149_code (6 : Nat) (Option.none : Option Jvm.ClassFile.FieldType), Jvm.Cond.code ({ cls := "java/lang/StringUTF16", name := "compress", desc := "([CII)[B" } : Jvm.MethodName) jdk_52_method_16_code (6 : Nat) (Option.some (Jvm.ClassFile.FieldType.array Jvm.ClassFile.FieldType.byte)), Jvm.Cond.code ({ cls := "java/lang/StringUTF16", name := "compress", desc := "([CI[BII)I" } : Jvm.MethodName) jdk_52_method_21_code (7 : Nat) (Option.some Jvm.ClassFile.FieldType.int), Jvm.Cond.code ({ cls := "java/lang/StringUTF16", name := "coderFromArrayLen", desc := "([BI)B" } : Jvm.MethodName) jdk_52_method_15_code (2 : Nat) (Option.some Jvm.ClassFile.FieldType.byte)]
set_option maxRecDepth 65536 in
theorem codes_eq : words1.filter isCode = codes1 := rfl
theorem w_codes : ∀ c ∈ words1.filter isCode, c.before args0 about1 = true := by
  rw [codes_eq]
  intro c hc
  simp only [codes1, List.mem_cons, List.not_mem_nil, or_false] at hc
  rcases hc with rfl | rfl | rfl | rfl | rfl | rfl | rfl | rfl | rfl | rfl | rfl | rfl | rfl
  · exact w_c0
  · exact w_c1
  · exact w_c2
  · exact w_c3
  · exact w_c4
  · exact w_c5
  · exact w_c6
  · exact w_c7
  · exact w_c8
  · exact w_c9
  · exact w_c10
  · exact w_c11
  · exact w_c12
set_option maxRecDepth 65536 in
theorem w_t1 : (words1.take 24).all (fun c => isCode c || c.before args0 about1) = true := by decide +kernel
set_option maxRecDepth 65536 in
theorem w_t2 : ((words1.drop 24).take 24).all (fun c => isCode c || c.before args0 about1) = true := by decide +kernel
set_option maxRecDepth 65536 in
theorem w_t3 : (((words1.drop 24).drop 24).take 24).all (fun c => isCode c || c.before args0 about1) = true := by decide +kernel
set_option maxRecDepth 65536 in
theorem w_t4 : (((words1.drop 24).drop 24).drop 24).all (fun c => isCode c || c.before args0 about1) = true := by decide +kernel
theorem w_tables : (allAtoms (Jvm.Cond.code x code maxLocals ret :: tables_1)).before args0 about1 = true := by
  rw [allAtoms_all]
  show words1.all (fun c => c.before args0 about1) = true
  refine all_split ?_ w_codes
  rw [← List.take_append_drop 24 words1, List.all_append, w_t1, ← List.take_append_drop 24 (words1.drop 24), List.all_append, w_t2, ← List.take_append_drop 24 ((words1.drop 24).drop 24), List.all_append, w_t3, w_t4]
  rfl
set_option maxRecDepth 65536 in
theorem w_rest : rest_1_c.before args0 about1 = true := by decide +kernel
set_option maxRecDepth 65536 in
theorem w_case : (Jvm.Cond.and given_1 narrow_1).before args0 about1 = true := by decide +kernel
theorem w_applies : (headSpec (Jvm.Cond.code x code maxLocals ret :: tables_1) room_1).applies x e0.platform about1 = true :=
  (Spec.applies_iff w_frames).mpr ⟨w_running, w_runnable, w_alone, w_named, w_hears, w_ripe, w_room, w_tables⟩
theorem atStart : AtStart classFile x code maxLocals ret World_1 tables_1 room_1 Calls_1 rest_1 Pre_1 launch0 p0 e0 about1 theMethod args0 below0 :=
  ⟨lists_1, trivial, launch0.admits_env _ _ _, launch0.least_env, fairChoices_fair.cas, fairChoices_fair.clock, w_frames, w_args, w_heap, w_applies, trivial, w_rest, w_case⟩
end start1
theorem witness_1 : WitnessClaimed_1 := ⟨start1.p0, start1.e0, start1.about1, start1.theMethod, start1.args0, start1.below0, start1.atStart⟩
end Jvm.Pilot.@@N@@
