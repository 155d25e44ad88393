import JvmDerived
import JvmDerived.Pilot.@@N@@Statement
import JvmDerived.Pilot.@@N@@Code
set_option linter.unusedVariables false
set_option linter.unusedSimpArgs false
/- laws to paste: Road.backV, Road.empW, Road.eqW (cut by pick.py; bodies as the Statement names them) -/
namespace Jvm.Pilot.@@N@@
namespace StrChars
open Jvm Sem ClassFile Op Lib Jvm.Stand Jvm.Free.XT Jvm.Free.ALB Jvm.Free.JM Jvm.Free
open Jvm.Lib.Cold (StaticIs)
/-- a char array whose places are chars -/
def Ch (a : Addr) (A : Cell) (U : State) : Prop := Arr .char a A U ∧ Typed .char A
theorem Ch.mv {a : Addr} {A : Cell} {U U' : State} (h : Ch a A U) (hal : U.vm.Alike U'.vm) (hh : U'.heap = U.heap) : Ch a A U' := ⟨h.1.mv hal hh, h.2⟩
theorem Ch.keep {a : Addr} {A : Cell} {U U' : State} (h : Ch a A U) (hal : U.vm.Alike U'.vm) (hk : U'.heap[a]? = some A) : Ch a A U' := ⟨h.1.keep hal hk, h.2⟩
/-- what place i of a char[]'s cell holds -/
def cv (A : Cell) (i : Nat) : Int32 := match A.slots[i]? with | some (.int x) => x | _ => 0
theorem Ch.get {a : Addr} {A : Cell} {U : State} (h : Ch a A U) {i : Nat} (hi : i < A.slots.size) : A.slots[i]? = some (.int (cv A i)) := by
  have e := Array.getElem?_eq_getElem hi
  have f := h.2 i _ e
  unfold cv; rw [e]
  generalize A.slots[i] = v at f
  cases v <;> simp [fits] at f ⊢
/-- the byte that i2b leaves of a char -/
def lo8 (x : Int32) : Int32 := x.toInt8.toInt32
theorem fits_lo8 (y : Int32) : fits .byte (.int (lo8 y)) = true := by
  have h1 := y.toInt8.le_toInt
  have h2 := y.toInt8.toInt_lt
  simp only [lo8, fits, Bool.and_eq_true, decide_eq_true_eq, Int32.le_iff_toInt_le, Int8.toInt_toInt32, show (-128 : Int32).toInt = -128 from by decide, show (127 : Int32).toInt = 127 from by decide]
  omega
/-- A' is A but that each place j of lo .. hi - 1 holds f j -/
def Laid (A A' : Cell) (lo hi : Nat) (f : Nat → Value) : Prop := A'.cls = A.cls ∧ A'.vm = A.vm ∧ A'.slots.size = A.slots.size ∧ ∀ i, A'.slots[i]? = if lo ≤ i ∧ i < hi then some (f i) else A.slots[i]?
theorem Laid.zero (A : Cell) (lo : Nat) (f : Nat → Value) : Laid A A lo (lo + 0) f := ⟨rfl, rfl, rfl, fun i => by rw [if_neg (by omega)]⟩
theorem Laid.step {A Ak : Cell} {lo k : Nat} {f : Nat → Value} {v : Value} (h : Laid A Ak lo k f) (hlo : lo ≤ k) (hk : k < Ak.slots.size) (hv : v = f k) : Laid A (Ak.setSlot k v) lo (k + 1) f := by
  refine ⟨h.1, h.2.1, by simpa [Cell.setSlot] using h.2.2.1, fun i => ?_⟩
  by_cases e : k = i
  · subst e; rw [Cell.slots_setSlot_self v hk, if_pos (by omega), hv]
  · rw [Cell.slots_setSlot_ne v e, h.2.2.2 i]
    by_cases q : lo ≤ i ∧ i < k
    · rw [if_pos q, if_pos (by omega)]
    · rw [if_neg q, if_neg (by omega)]
def U16 : String := "java/lang/StringUTF16"
namespace Cmp5
def yN : MethodName := ⟨"java/lang/StringUTF16", "compress", "([CI[BII)I"⟩
abbrev yB : ByteArray := jdk_52_method_21_code
theorem d0 : decode yB 0 = .ok (.iconst 0, 1) := by decide +kernel
theorem d1 : decode yB 1 = .ok (.istore 5, 2) := by decide +kernel
theorem d3 : decode yB 3 = .ok (.iload 5, 2) := by decide +kernel
theorem d5 : decode yB 5 = .ok (.iload 4, 2) := by decide +kernel
theorem d7 : decode yB 7 = .ok (.if_icmp (.ge) 37, 3) := by decide +kernel
theorem d10 : decode yB 10 = .ok (.aload_n 0, 1) := by decide +kernel
theorem d11 : decode yB 11 = .ok (.iload_n 1, 1) := by decide +kernel
theorem d12 : decode yB 12 = .ok (.caload, 1) := by decide +kernel
theorem d13 : decode yB 13 = .ok (.istore 6, 2) := by decide +kernel
theorem d15 : decode yB 15 = .ok (.iload 6, 2) := by decide +kernel
theorem d17 : decode yB 17 = .ok (.sipush 255, 3) := by decide +kernel
theorem d20 : decode yB 20 = .ok (.if_icmp (.le) 6, 3) := by decide +kernel
theorem d26 : decode yB 26 = .ok (.aload_n 2, 1) := by decide +kernel
theorem d27 : decode yB 27 = .ok (.iload_n 3, 1) := by decide +kernel
theorem d28 : decode yB 28 = .ok (.iload 6, 2) := by decide +kernel
theorem d30 : decode yB 30 = .ok (.i2b, 1) := by decide +kernel
theorem d31 : decode yB 31 = .ok (.bastore, 1) := by decide +kernel
theorem d32 : decode yB 32 = .ok (.iinc 1 1, 3) := by decide +kernel
theorem d35 : decode yB 35 = .ok (.iinc 3 1, 3) := by decide +kernel
theorem d38 : decode yB 38 = .ok (.iinc 5 1, 3) := by decide +kernel
theorem d41 : decode yB 41 = .ok (.goto (-38), 3) := by decide +kernel
theorem d44 : decode yB 44 = .ok (.iload 4, 2) := by decide +kernel
theorem d46 : decode yB 46 = .ok (.ireturn, 1) := by decide +kernel
def site : List Cond := []
def tab : Cond := tabOf yN yB 7 (some .int) site
def P (b : Addr) (A : Cell) (d : Addr) (B : Cell) (o q len : Nat) (args : Array Value) (s : State) : Prop := args = #[.ref b, .int (Int32.ofNat o), .ref d, .int (Int32.ofNat q), .int (Int32.ofNat len)] ∧ Ch b A s ∧ Arr .byte d B s ∧ b ≠ d ∧ o + len ≤ A.slots.size ∧ q + len ≤ B.slots.size ∧ ∀ i, i < len → ¬ 255 < cv A (o + i)
def E (b : Addr) (A : Cell) (d : Addr) (B : Cell) (o q len : Nat) (r : Option Value) (s u : State) : Prop := r = some (.int (Int32.ofNat len)) ∧ ∃ B', Put d B' s u ∧ Laid B B' q (q + len) (fun j => Value.int (lo8 (cv A (o + (j - q)))))
/-- no char of the range above 255: len; the places written hold each char's low byte -/
theorem law (l : Launch) (b : Addr) (A : Cell) (d : Addr) (B : Cell) (o q len : Nat) : Law l yN 5 5 0 0 yB 7 (some .int) site (P b A d B o q len) (E b A d B o q len) (copyLocs d q len) 0 0 := by
  refine Law.of_walk (plainFor_of_name (by decide +kernel)) (by decide +kernel) (by decide +kernel) (by decide) (fun _ _ h => by rw [h.1]; rfl) (fun _ U U' hal hh h => ⟨h.1, h.2.1.mv hal hh, h.2.2.1.mv hal hh, h.2.2.2⟩) (fun r U U' V V' h1 hal h2 h => ⟨h.1, h.2.elim fun B' q => ⟨B', q.1.mv h1 h2, q.2⟩⟩) ?_
  intro p e s m args below meth c s₁ X0 hexec hbytes hml hret hlk hnm hown hh0 W hP
  obtain ⟨rfl, hA, hB, hne, l1, l2, hp⟩ := hP
  have c1 : Steps p.tables e below (s₁.setTop (entryFrame m #[.ref b, .int (Int32.ofNat o), .ref d, .int (Int32.ofNat q), .int (Int32.ofNat len)] 7)) (s₁.setTop (mkF m 0 #[.val (.ref b), .val (.int (Int32.ofNat o)), .val (.ref d), .val (.int (Int32.ofNat q)), .val (.int (Int32.ofNat len)), .unset, .unset] [])) := entry rfl
  have hA0 := hA.1.mv X0.warmed.alike hh0
  have hB0 := hB.mv X0.warmed.alike hh0
  have a31 := hA.1.2.2.2
  have c2 : Steps p.tables e below (s₁.setTop (entryFrame m #[.ref b, .int (Int32.ofNat o), .ref d, .int (Int32.ofNat q), .int (Int32.ofNat len)] 7)) (s₁.setTop (mkF m 3 #[.val (.ref b), .val (.int (Int32.ofNat o)), .val (.ref d), .val (.int (Int32.ofNat q)), .val (.int (Int32.ofNat len)), .val (.int 0), .unset] [])) := c1.trans (by
    refine iconstV X0.here hexec rfl 0 (hb hbytes d0) (by decide) ?_
    refine XS.istore X0.here hexec rfl (hb hbytes d1) rfl rfl ?_
    exact Steps.refl _)
  have loop : ∀ (r i : Nat), i + r = len → ∀ (z : Slot), (z = .unset ∨ ∃ w, z = .val w ∧ w.category = 1) → ∀ (Tl : State) (Bk : Cell), Stand p l e { frames := 0, locals := 0, cells := 0, slots := 0 } s m #[.ref b, .int (Int32.ofNat o), .ref d, .int (Int32.ofNat q), .int (Int32.ofNat len)] below meth c Tl ([] ++ copyLocs d q i) 0 0 → Put d Bk s₁ Tl → Laid B Bk q (q + i) (fun j => Value.int (lo8 (cv A (o + (j - q))))) →
      Steps p.tables e below (s₁.setTop (entryFrame m #[.ref b, .int (Int32.ofNat o), .ref d, .int (Int32.ofNat q), .int (Int32.ofNat len)] 7)) (Tl.setTop (mkF m 3 #[.val (.ref b), .val (.int (Int32.ofNat (o + i))), .val (.ref d), .val (.int (Int32.ofNat (q + i))), .val (.int (Int32.ofNat len)), .val (.int (Int32.ofNat i)), z] [])) → ∃ (T' : State) (B' : Cell) (z' : Slot), Stand p l e { frames := 0, locals := 0, cells := 0, slots := 0 } s m #[.ref b, .int (Int32.ofNat o), .ref d, .int (Int32.ofNat q), .int (Int32.ofNat len)] below meth c T' ([] ++ copyLocs d q len) 0 0 ∧ Put d B' s₁ T' ∧ Laid B B' q (q + len) (fun j => Value.int (lo8 (cv A (o + (j - q))))) ∧
      Steps p.tables e below (s₁.setTop (entryFrame m #[.ref b, .int (Int32.ofNat o), .ref d, .int (Int32.ofNat q), .int (Int32.ofNat len)] 7)) (T'.setTop (mkF m 3 #[.val (.ref b), .val (.int (Int32.ofNat (o + len))), .val (.ref d), .val (.int (Int32.ofNat (q + len))), .val (.int (Int32.ofNat len)), .val (.int (Int32.ofNat len)), z'] [])) := by
    intro r
    induction r with
    | zero =>
      intro i hi z hz Tl Bk Xl pl fl cl
      have hil : i = len := by omega
      rw [hil] at Xl fl cl
      exact ⟨Tl, Bk, z, Xl, pl, fl, cl⟩
    | succ r ih =>
      intro i hi z hz Tl Bk Xl pl fl cl
      have all := X0.warmed.alike.symm.trans Xl.warmed.alike
      have hAl := hA0.keep all (pl.other hne hA0.1)
      have hBk := hB0.like all pl.1 fl.1 fl.2.1 fl.2.2.1
      have hlt : q + i < Bk.slots.size := by rw [fl.2.2.1]; omega
      have c3 : Steps p.tables e below (s₁.setTop (entryFrame m #[.ref b, .int (Int32.ofNat o), .ref d, .int (Int32.ofNat q), .int (Int32.ofNat len)] 7)) (Tl.setTop (mkF m 12 #[.val (.ref b), .val (.int (Int32.ofNat (o + i))), .val (.ref d), .val (.int (Int32.ofNat (q + i))), .val (.int (Int32.ofNat len)), .val (.int (Int32.ofNat i)), z] [.int (Int32.ofNat (o + i)), .ref b])) := cl.trans (by
        refine XS.iload Xl.here hexec rfl (hb hbytes d3) rfl ?_
        refine XS.iload Xl.here hexec rfl (hb hbytes d5) rfl ?_
        refine XS.icmpNo Xl.here hexec rfl (hb hbytes d7) rfl (ii_ge_f (lt32 (by omega) (by omega))) ?_
        refine XS.aloadN Xl.here hexec rfl (hb hbytes d10) rfl rfl ?_
        refine XS.iloadN Xl.here hexec rfl (hb hbytes d11) rfl ?_
        exact Steps.refl _)
      have c4 : Steps p.tables e below (s₁.setTop (entryFrame m #[.ref b, .int (Int32.ofNat o), .ref d, .int (Int32.ofNat q), .int (Int32.ofNat len)] 7)) (Tl.setTop (mkF m 13 #[.val (.ref b), .val (.int (Int32.ofNat (o + i))), .val (.ref d), .val (.int (Int32.ofNat (q + i))), .val (.int (Int32.ofNat len)), .val (.int (Int32.ofNat i)), z] [.int (cv A (o + i))])) := c3.trans (by
        refine Xl.aget hexec hAl rfl (hA.get (i := o + i) (by omega)) rfl rfl (hb hbytes d12) ?_
        exact Steps.refl _)
      have c5 : Steps p.tables e below (s₁.setTop (entryFrame m #[.ref b, .int (Int32.ofNat o), .ref d, .int (Int32.ofNat q), .int (Int32.ofNat len)] 7)) (Tl.setTop (mkF m 15 #[.val (.ref b), .val (.int (Int32.ofNat (o + i))), .val (.ref d), .val (.int (Int32.ofNat (q + i))), .val (.int (Int32.ofNat len)), .val (.int (Int32.ofNat i)), .val (.int (cv A (o + i)))] [])) := c4.trans (by
        refine XS.istoreS Xl.here hexec rfl (hb hbytes d13) rfl rfl hz ?_
        exact Steps.refl _)
      have c6 : Steps p.tables e below (s₁.setTop (entryFrame m #[.ref b, .int (Int32.ofNat o), .ref d, .int (Int32.ofNat q), .int (Int32.ofNat len)] 7)) (Tl.setTop (mkF m 31 #[.val (.ref b), .val (.int (Int32.ofNat (o + i))), .val (.ref d), .val (.int (Int32.ofNat (q + i))), .val (.int (Int32.ofNat len)), .val (.int (Int32.ofNat i)), .val (.int (cv A (o + i)))] [.int (lo8 (cv A (o + i))), .int (Int32.ofNat (q + i)), .ref d])) := c5.trans (by
        refine XS.iload Xl.here hexec rfl (hb hbytes d15) rfl ?_
        refine sipushV Xl.here hexec rfl 255 (hb hbytes d17) (by decide) ?_
        refine XS.icmpYes Xl.here hexec rfl (pc0 := 20) rfl (hb hbytes d20) rfl (ii_le_t (hp i (by omega))) (by decide) rfl ?_
        refine XS.aloadN Xl.here hexec rfl (hb hbytes d26) rfl rfl ?_
        refine XS.iloadN Xl.here hexec rfl (hb hbytes d27) rfl ?_
        refine XS.iload Xl.here hexec rfl (hb hbytes d28) rfl ?_
        refine i2b Xl.here hexec rfl (hb hbytes d30) rfl ?_
        exact Steps.refl _)
      obtain ⟨T7, X7, p7, st7⟩ := Xl.aput hexec hBk rfl hlt rfl (fits_lo8 (cv A (o + i))) (g := (mkF m 31 #[.val (.ref b), .val (.int (Int32.ofNat (o + i))), .val (.ref d), .val (.int (Int32.ofNat (q + i))), .val (.int (Int32.ofNat len)), .val (.int (Int32.ofNat i)), .val (.int (cv A (o + i)))] [.int (lo8 (cv A (o + i))), .int (Int32.ofNat (q + i)), .ref d])) rfl (rest := []) rfl (hb hbytes d31)
      have c8 : Steps p.tables e below (s₁.setTop (entryFrame m #[.ref b, .int (Int32.ofNat o), .ref d, .int (Int32.ofNat q), .int (Int32.ofNat len)] 7)) (T7.setTop (mkF m 32 #[.val (.ref b), .val (.int (Int32.ofNat (o + i))), .val (.ref d), .val (.int (Int32.ofNat (q + i))), .val (.int (Int32.ofNat len)), .val (.int (Int32.ofNat i)), .val (.int (cv A (o + i)))] [])) := c6.trans (st7 _ (Steps.refl _))
      have c9 : Steps p.tables e below (s₁.setTop (entryFrame m #[.ref b, .int (Int32.ofNat o), .ref d, .int (Int32.ofNat q), .int (Int32.ofNat len)] 7)) (T7.setTop (mkF m 3 #[.val (.ref b), .val (.int (Int32.ofNat (o + i) + 1)), .val (.ref d), .val (.int (Int32.ofNat (q + i) + 1)), .val (.int (Int32.ofNat len)), .val (.int (Int32.ofNat i + 1)), .val (.int (cv A (o + i)))] [])) := c8.trans (by
        refine iincV X7.here hexec rfl 1 (hb hbytes d32) (by decide) rfl rfl ?_
        refine iincV X7.here hexec rfl 1 (hb hbytes d35) (by decide) rfl rfl ?_
        refine iincV X7.here hexec rfl 1 (hb hbytes d38) (by decide) rfl rfl ?_
        refine XS.goto X7.here hexec rfl (pc0 := 41) rfl (hb hbytes d41) (by decide) rfl ?_
        exact Steps.refl _)
      have c10 : Steps p.tables e below (s₁.setTop (entryFrame m #[.ref b, .int (Int32.ofNat o), .ref d, .int (Int32.ofNat q), .int (Int32.ofNat len)] 7)) (T7.setTop (mkF m 3 #[.val (.ref b), .val (.int (Int32.ofNat (o + (i + 1)))), .val (.ref d), .val (.int (Int32.ofNat (q + (i + 1)))), .val (.int (Int32.ofNat len)), .val (.int (Int32.ofNat (i + 1))), .val (.int (cv A (o + i)))] [])) := by
        have := c9
        rw [succ32, succ32, succ32] at this
        exact this
      exact ih (i + 1) (by omega) _ (Or.inr ⟨_, rfl, rfl⟩) T7 _ (by rw [copyLocs_step, ← List.append_assoc]; exact X7) (pl.trans p7) (fl.step (by omega) hlt (by simp)) c10
  obtain ⟨T9, B9, z9, X9, p9, f9, g9⟩ := loop len 0 (by omega) .unset (Or.inl rfl) s₁ B (by simpa [copyLocs] using X0) ⟨hB0.1, fun _ _ => rfl, rfl⟩ (Laid.zero _ _ _) c2
  have c11 : Steps p.tables e below (s₁.setTop (entryFrame m #[.ref b, .int (Int32.ofNat o), .ref d, .int (Int32.ofNat q), .int (Int32.ofNat len)] 7)) (T9.setTop (mkF m 46 #[.val (.ref b), .val (.int (Int32.ofNat (o + len))), .val (.ref d), .val (.int (Int32.ofNat (q + len))), .val (.int (Int32.ofNat len)), .val (.int (Int32.ofNat len)), z9] [.int (Int32.ofNat len)])) := g9.trans (by
    refine XS.iload X9.here hexec rfl (hb hbytes d3) rfl ?_
    refine XS.iload X9.here hexec rfl (hb hbytes d5) rfl ?_
    refine XS.icmpYes X9.here hexec rfl (pc0 := 7) rfl (hb hbytes d7) rfl (ii_ge_t (nlt32 (by omega) (Nat.le_refl _))) (by decide) rfl ?_
    refine XS.iload X9.here hexec rfl (hb hbytes d44) rfl ?_
    exact Steps.refl _)
  exact ⟨T9, some (.int (Int32.ofNat len)), _, _, _, X9, by simp, rfl, rfl, (fun h => by cases h), ⟨rfl, B9, p9.from hh0, f9⟩, fun fs hl => c11.trans (X9.ireturnOut hexec hret rfl (Or.inl rfl) (hb hbytes d46) hl)⟩
end Cmp5
namespace Cmp3
def yN : MethodName := ⟨"java/lang/StringUTF16", "compress", "([CII)[B"⟩
abbrev yB : ByteArray := jdk_52_method_16_code
theorem d0 : decode yB 0 = .ok (.iload_n 2, 1) := by decide +kernel
theorem d1 : decode yB 1 = .ok (.newarray .byte, 2) := by decide +kernel
theorem d3 : decode yB 3 = .ok (.astore_n 3, 1) := by decide +kernel
theorem d4 : decode yB 4 = .ok (.aload_n 0, 1) := by decide +kernel
theorem d5 : decode yB 5 = .ok (.iload_n 1, 1) := by decide +kernel
theorem d6 : decode yB 6 = .ok (.aload_n 3, 1) := by decide +kernel
theorem d7 : decode yB 7 = .ok (.iconst 0, 1) := by decide +kernel
theorem d8 : decode yB 8 = .ok (.iload_n 2, 1) := by decide +kernel
theorem d9 : decode yB 9 = .ok (.invokestatic 115, 3) := by decide +kernel
theorem d12 : decode yB 12 = .ok (.istore 4, 2) := by decide +kernel
theorem d14 : decode yB 14 = .ok (.iload 4, 2) := by decide +kernel
theorem d16 : decode yB 16 = .ok (.iload_n 2, 1) := by decide +kernel
theorem d17 : decode yB 17 = .ok (.if_icmp (.eq) 40, 3) := by decide +kernel
theorem d57 : decode yB 57 = .ok (.aload_n 3, 1) := by decide +kernel
theorem d58 : decode yB 58 = .ok (.areturn, 1) := by decide +kernel
def site : List Cond := [.arrayClass .byte, Cmp5.tab] ++ staticW U16 115 Cmp5.yN
def tab : Cond := tabOf yN yB 6 (some (.array .byte)) site
def P (b : Addr) (A : Cell) (o len : Nat) (args : Array Value) (s : State) : Prop := args = #[.ref b, .int (Int32.ofNat o), .int (Int32.ofNat len)] ∧ Ch b A s ∧ o + len ≤ A.slots.size ∧ len ≤ 536870912 ∧ ∀ i, i < len → ¬ 255 < cv A (o + i)
def E (b : Addr) (A : Cell) (o len : Nat) (r : Option Value) (s u : State) : Prop := NewArr .byte "[B" len (fun j => .int (lo8 (cv A (o + j)))) r s u ∧ u.heap.size = s.heap.size + 1
/-- no char of the range above 255: a new byte[] of their low bytes -/
theorem law (l : Launch) (b : Addr) (A : Cell) (o len : Nat) : Law l yN 3 3 1 18 yB 6 (some (.array .byte)) site (P b A o len) (E b A o len) [] 1 len := by
  refine Law.of_walk (plainFor_of_name (by decide +kernel)) (by decide +kernel) (by decide +kernel) (by decide) (fun _ _ h => by rw [h.1]; rfl) (fun _ U U' hal hh h => ⟨h.1, h.2.1.mv hal hh, h.2.2⟩) (fun r U U' V V' h1 hal h2 h => ⟨NewArr.mv r U U' V V' h1 hal h2 h.1, by rw [h1, h2]; exact h.2⟩) ?_
  intro p e s m args below meth c s₁ X0 hexec hbytes hml hret hlk hnm hown hh0 W hP
  obtain ⟨rfl, hA, l1, l2, hp⟩ := hP
  have a31 := hA.1.2.2.2
  have c1 : Steps p.tables e below (s₁.setTop (entryFrame m #[.ref b, .int (Int32.ofNat o), .int (Int32.ofNat len)] 6)) (s₁.setTop (mkF m 0 #[.val (.ref b), .val (.int (Int32.ofNat o)), .val (.int (Int32.ofNat len)), .unset, .unset, .unset] [])) := entry rfl
  have c2 : Steps p.tables e below (s₁.setTop (entryFrame m #[.ref b, .int (Int32.ofNat o), .int (Int32.ofNat len)] 6)) (s₁.setTop (mkF m 1 #[.val (.ref b), .val (.int (Int32.ofNat o)), .val (.int (Int32.ofNat len)), .unset, .unset, .unset] [.int (Int32.ofNat len)])) := c1.trans (by
    refine XS.iloadN X0.here hexec rfl (hb hbytes d0) rfl ?_
    exact Steps.refl _)
  obtain ⟨T3, B3, X3, ba3, bs3, bv3, bh3, bf3, st3⟩ := X0.anew hexec (atype := .byte) (wk W (.arrayClass .byte)) rfl (by show len * 1 ≤ _; omega) (by omega) (g := (mkF m 1 #[.val (.ref b), .val (.int (Int32.ofNat o)), .val (.int (Int32.ofNat len)), .unset, .unset, .unset] [.int (Int32.ofNat len)])) rfl (hb hbytes d1) (rest := []) rfl (Nat.le_refl _) (by show 0 + len ≤ len; omega)
  rw [hh0] at ba3 st3
  have kp3 : XT.Kept s T3 := (XT.Kept.of_eq hh0).push bh3
  have hA3 := hA.keep X3.warmed.alike (kp3 _ _ hA.1.1)
  have hne : b ≠ s.heap.size := hA.1.ne
  have c4 : Steps p.tables e below (s₁.setTop (entryFrame m #[.ref b, .int (Int32.ofNat o), .int (Int32.ofNat len)] 6)) (T3.setTop (mkF m 3 #[.val (.ref b), .val (.int (Int32.ofNat o)), .val (.int (Int32.ofNat len)), .unset, .unset, .unset] [.ref s.heap.size])) := c2.trans (st3 _ (Steps.refl _))
  have c5 : Steps p.tables e below (s₁.setTop (entryFrame m #[.ref b, .int (Int32.ofNat o), .int (Int32.ofNat len)] 6)) (T3.setTop (mkF m 9 #[.val (.ref b), .val (.int (Int32.ofNat o)), .val (.int (Int32.ofNat len)), .val (.ref s.heap.size), .unset, .unset] [.int (Int32.ofNat len), .int 0, .ref s.heap.size, .int (Int32.ofNat o), .ref b])) := c4.trans (by
    refine XS.astoreN X3.here hexec rfl (hb hbytes d3) rfl rfl rfl ?_
    refine XS.aloadN X3.here hexec rfl (hb hbytes d4) rfl rfl ?_
    refine XS.iloadN X3.here hexec rfl (hb hbytes d5) rfl ?_
    refine XS.aloadN X3.here hexec rfl (hb hbytes d6) rfl rfl ?_
    refine iconstV X3.here hexec rfl 0 (hb hbytes d7) (by decide) ?_
    refine XS.iloadN X3.here hexec rfl (hb hbytes d8) rfl ?_
    exact Steps.refl _)
  obtain ⟨v6, T6, X6, E6, g6⟩ := X3.callS hexec (Cmp5.law l b A s.heap.size B3 o 0 len) hown (wks W (staticW U16 115 Cmp5.yN)) (wk W Cmp5.tab) (W := 0) (Nat.le_of_ble_eq_true rfl) (Nat.le_of_ble_eq_true rfl) (Nat.le_refl _) (by show 0 + len + 0 ≤ len; omega) (g := (mkF m 9 #[.val (.ref b), .val (.int (Int32.ofNat o)), .val (.int (Int32.ofNat len)), .val (.ref s.heap.size), .unset, .unset] [.int (Int32.ofNat len), .int (Int32.ofNat 0), .ref s.heap.size, .int (Int32.ofNat o), .ref b])) rfl (by rw [hml]; rfl) c5 (argsL := [.ref b, .int (Int32.ofNat o), .ref s.heap.size, .int (Int32.ofNat 0), .int (Int32.ofNat len)]) (rest := []) rfl rfl (by show 2 * 0 + 0 ≤ _; decide) (hb hbytes d9) (⟨rfl, hA3, ba3, hne, l1, by rw [bs3]; simp, hp⟩)
  obtain ⟨rfl, B6, p6, f6⟩ := E6
  have c7 : Steps p.tables e below (s₁.setTop (entryFrame m #[.ref b, .int (Int32.ofNat o), .int (Int32.ofNat len)] 6)) (T6.setTop (mkF m 12 #[.val (.ref b), .val (.int (Int32.ofNat o)), .val (.int (Int32.ofNat len)), .val (.ref s.heap.size), .unset, .unset] [.int (Int32.ofNat len)])) := g6
  have c8 : Steps p.tables e below (s₁.setTop (entryFrame m #[.ref b, .int (Int32.ofNat o), .int (Int32.ofNat len)] 6)) (T6.setTop (mkF m 58 #[.val (.ref b), .val (.int (Int32.ofNat o)), .val (.int (Int32.ofNat len)), .val (.ref s.heap.size), .val (.int (Int32.ofNat len)), .unset] [.ref s.heap.size])) := c7.trans (by
    refine XS.istore X6.here hexec rfl (hb hbytes d12) rfl rfl ?_
    refine XS.iload X6.here hexec rfl (hb hbytes d14) rfl ?_
    refine XS.iloadN X6.here hexec rfl (hb hbytes d16) rfl ?_
    refine XS.icmpYes X6.here hexec rfl (pc0 := 17) rfl (hb hbytes d17) rfl (ii_eq_t rfl) (by decide) rfl ?_
    refine XS.aloadN X6.here hexec rfl (hb hbytes d57) rfl rfl ?_
    exact Steps.refl _)
  have X8 := X6.wide (L' := []) (cells' := 1) (slots' := len) (fun x hx hlt => by
    simp only [List.nil_append, copyLocs, List.mem_map, List.mem_range] at hx
    obtain ⟨i, -, rfl⟩ := hx
    exact absurd hlt (Nat.lt_irrefl _)) (Nat.le_refl _) (by omega)
  exact ⟨T6, some (.ref s.heap.size), _, _, _, X8, rfl, rfl, rfl, (fun h => by cases h), ⟨⟨rfl, B6, ba3.like (X3.warmed.alike.symm.trans X6.warmed.alike) p6.1 f6.1 f6.2.1 f6.2.2.1, f6.2.1.trans bv3, by rw [X6.warmed.alike.findClass, f6.1]; exact bf3, by rw [f6.2.2.1, bs3]; simp, fun j hj => by rw [f6.2.2.2 j, if_pos (by omega)]; rfl, kp3.put p6 (Nat.le_refl _)⟩, by rw [p6.2.2, bh3, hh0]; simp⟩, fun fs hl => c8.trans (X8.areturnOut hexec rfl hret rfl (hb hbytes d58) hl)⟩
end Cmp3
namespace CodL
def yN : MethodName := ⟨"java/lang/StringUTF16", "coderFromArrayLen", "([BI)B"⟩
abbrev yB : ByteArray := jdk_52_method_15_code
theorem d0 : decode yB 0 = .ok (.iload_n 1, 1) := by decide +kernel
theorem d1 : decode yB 1 = .ok (.aload_n 0, 1) := by decide +kernel
theorem d2 : decode yB 2 = .ok (.arraylength, 1) := by decide +kernel
theorem d3 : decode yB 3 = .ok (.isub, 1) := by decide +kernel
theorem d4 : decode yB 4 = .ok (.bipush 31, 2) := by decide +kernel
theorem d6 : decode yB 6 = .ok (.iushr, 1) := by decide +kernel
theorem d7 : decode yB 7 = .ok (.i2b, 1) := by decide +kernel
theorem d8 : decode yB 8 = .ok (.ireturn, 1) := by decide +kernel
def site : List Cond := []
def tab : Cond := tabOf yN yB 2 (some .byte) site
def P (d : Addr) (B : Cell) (args : Array Value) (s : State) : Prop := args = #[.ref d, .int (Int32.ofNat B.slots.size)] ∧ Arr .byte d B s
def E (r : Option Value) (s u : State) : Prop := XT.PureE (some (.int 0)) r s u
/-- an array as long as the number of chars: LATIN1 -/
theorem law (l : Launch) (d : Addr) (B : Cell) : Law l yN 2 2 0 0 yB 2 (some .byte) site (P d B) E [] 0 0 := by
  refine Law.of_walk (plainFor_of_name (by decide +kernel)) (by decide +kernel) (by decide +kernel) (by decide) (fun _ _ h => by rw [h.1]; rfl) (fun _ U U' hal hh h => ⟨h.1, h.2.mv hal hh⟩) (fun r U U' V V' h1 hal h2 h => XT.PureE.mv r U U' V V' h1 hal h2 h) ?_
  intro p e s m args below meth c s₁ X0 hexec hbytes hml hret hlk hnm hown hh0 W hP
  obtain ⟨rfl, hB⟩ := hP
  have hB0 := hB.mv X0.warmed.alike hh0
  have c1 : Steps p.tables e below (s₁.setTop (entryFrame m #[.ref d, .int (Int32.ofNat B.slots.size)] 2)) (s₁.setTop (mkF m 0 #[.val (.ref d), .val (.int (Int32.ofNat B.slots.size))] [])) := entry rfl
  have c2 : Steps p.tables e below (s₁.setTop (entryFrame m #[.ref d, .int (Int32.ofNat B.slots.size)] 2)) (s₁.setTop (mkF m 2 #[.val (.ref d), .val (.int (Int32.ofNat B.slots.size))] [.ref d, .int (Int32.ofNat B.slots.size)])) := c1.trans (by
    refine XS.iloadN X0.here hexec rfl (hb hbytes d0) rfl ?_
    refine XS.aloadN X0.here hexec rfl (hb hbytes d1) rfl rfl ?_
    exact Steps.refl _)
  have c3 : Steps p.tables e below (s₁.setTop (entryFrame m #[.ref d, .int (Int32.ofNat B.slots.size)] 2)) (s₁.setTop (mkF m 8 #[.val (.ref d), .val (.int (Int32.ofNat B.slots.size))] [.int (lo8 (ushr (Int32.ofNat B.slots.size - Int32.ofNat B.slots.size) 31))])) := c2.trans (by
    refine X0.alen hexec hB0 rfl rfl (hb hbytes d2) ?_
    refine XS.isub X0.here hexec rfl (hb hbytes d3) rfl ?_
    refine bipushV X0.here hexec rfl 31 (hb hbytes d4) (by decide) ?_
    refine iushr X0.here hexec rfl (hb hbytes d6) rfl ?_
    refine i2b X0.here hexec rfl (hb hbytes d7) rfl ?_
    exact Steps.refl _)
  have e0 : lo8 (ushr (Int32.ofNat B.slots.size - Int32.ofNat B.slots.size) 31) = 0 := by rw [Int32.sub_self]; decide
  rw [e0] at c3
  exact ⟨s₁, some (.int 0), _, _, _, X0, rfl, rfl, rfl, (fun h => by cases h), ⟨rfl, hh0⟩, fun fs hl => c3.trans (X0.ireturnOut hexec hret rfl (Or.inr (Or.inr (Or.inl rfl))) (hb hbytes d8) hl)⟩
end CodL
/-- the String at a is Latin-1 over a new byte[] (the heap's one new cell): the low bytes of the len chars of A from o on; every cell but a is kept -/
def Got (a : Addr) (D : Cell) (fV fC : Field) (A : Cell) (o len : Nat) (r : Option Value) (s u : State) : Prop := r = none ∧ ∃ D' V : Cell, Blank "java/lang/String" a D' u ∧ Same D D' [fV.slot, fC.slot] ∧ D'.slots[fV.slot]? = some (.ref s.heap.size) ∧ D'.slots[fC.slot]? = some (.int 0) ∧ Arr .byte s.heap.size V u ∧ V.vm = .none ∧ u.vm.findClass "[B" = some V.cls ∧ V.slots.size = len ∧ (∀ j, j < len → V.slots[j]? = some (.int (lo8 (cv A (o + j))))) ∧ (∀ (y : Addr) (c : Cell), y ≠ a → s.heap[y]? = some c → u.heap[y]? = some c) ∧ u.heap.size = s.heap.size + 1
theorem Got.mv {a : Addr} {D A : Cell} {fV fC : Field} {o len : Nat} : ∀ r (U U' V V' : State), U'.heap = U.heap → V.vm.Alike V'.vm → V'.heap = V.heap → Got a D fV fC A o len r U V → Got a D fV fC A o len r U' V' :=
  fun r U U' V V' h1 hal h2 ⟨e0, D', X, a1, a2, a3, a4, a5, a6, a7, a8, a9, a10, a11⟩ => ⟨e0, D', X, a1.mv hal h2, a2, by rw [h1]; exact a3, a4, by rw [h1]; exact a5.mv hal h2, a6, by rw [hal.findClass]; exact a7, a8, a9, by rw [h1, h2]; exact a10, by rw [h1, h2]; exact a11⟩
namespace New4
def yN : MethodName := ⟨"java/lang/String", "<init>", "([CIILjava/lang/Void;)V"⟩
abbrev yB : ByteArray := jdk_42_method_149_code
theorem d0 : decode yB 0 = .ok (.aload_n 0, 1) := by decide +kernel
theorem d1 : decode yB 1 = .ok (.invokespecial 1, 3) := by decide +kernel
theorem d4 : decode yB 4 = .ok (.iload_n 3, 1) := by decide +kernel
theorem d5 : decode yB 5 = .ok (.ifCond (.ne) 22, 3) := by decide +kernel
theorem d27 : decode yB 27 = .ok (.getstatic 38, 3) := by decide +kernel
theorem d30 : decode yB 30 = .ok (.ifCond (.eq) 28, 3) := by decide +kernel
theorem d33 : decode yB 33 = .ok (.aload_n 1, 1) := by decide +kernel
theorem d34 : decode yB 34 = .ok (.iload_n 2, 1) := by decide +kernel
theorem d35 : decode yB 35 = .ok (.iload_n 3, 1) := by decide +kernel
theorem d36 : decode yB 36 = .ok (.invokestatic 177, 3) := by decide +kernel
theorem d39 : decode yB 39 = .ok (.astore 5, 2) := by decide +kernel
theorem d41 : decode yB 41 = .ok (.aload_n 0, 1) := by decide +kernel
theorem d42 : decode yB 42 = .ok (.aload 5, 2) := by decide +kernel
theorem d44 : decode yB 44 = .ok (.iload_n 3, 1) := by decide +kernel
theorem d45 : decode yB 45 = .ok (.invokestatic 47, 3) := by decide +kernel
theorem d48 : decode yB 48 = .ok (.putfield 15, 3) := by decide +kernel
theorem d51 : decode yB 51 = .ok (.aload_n 0, 1) := by decide +kernel
theorem d52 : decode yB 52 = .ok (.aload 5, 2) := by decide +kernel
theorem d54 : decode yB 54 = .ok (.putfield 9, 3) := by decide +kernel
theorem d57 : decode yB 57 = .ok (.return_, 1) := by decide +kernel
def site : List Cond := [.fieldLink "java/lang/String" 38 "java/lang/String" "COMPACT_STRINGS" "Z", Cmp3.tab, CodL.tab, .laysFinal "java/lang/String" "java/lang/String" "value" "[B", .fieldLink "java/lang/String" 9 "java/lang/String" "value" "[B", .laysFinal "java/lang/String" "java/lang/String" "coder" "B", .fieldLink "java/lang/String" 15 "java/lang/String" "coder" "B"] ++ objW "java/lang/String" 1 ++ staticW "java/lang/String" 177 Cmp3.yN ++ staticW "java/lang/String" 47 CodL.yN
def tab : Cond := tabOf yN yB 6 none site
def P (a : Addr) (D : Cell) (fV fC : Field) (b : Addr) (A : Cell) (z : Int32) (o len : Nat) (args : Array Value) (s : State) : Prop := args = #[.ref a, .ref b, .int (Int32.ofNat o), .int (Int32.ofNat len), .null] ∧ Blank "java/lang/String" a D s ∧ Found "java/lang/String" "value" "[B" fV s ∧ Found "java/lang/String" "coder" "B" fC s ∧ Ch b A s ∧ StaticIs s "java/lang/String" "COMPACT_STRINGS" "Z" (.int z) ∧ ¬ z = 0 ∧ 0 < len ∧ o + len ≤ A.slots.size ∧ len ≤ 536870912 ∧ ∀ i, i < len → ¬ 255 < cv A (o + i)
def E (a : Addr) (D : Cell) (fV fC : Field) (A : Cell) (o len : Nat) (r : Option Value) (s u : State) : Prop := Got a D fV fC A o len r s u
/-- len > 0, no char of the range above 255: a Latin-1 String of their low bytes -/
theorem law (l : Launch) (a : Addr) (D : Cell) (fV fC : Field) (b : Addr) (A : Cell) (z : Int32) (o len : Nat) : Law l yN 5 4 2 35 yB 6 none site (P a D fV fC b A z o len) (E a D fV fC A o len) [⟨a, fC.slot⟩, ⟨a, fV.slot⟩] 1 len := by
  refine Law.of_walk (plainFor_of_name (by decide +kernel)) (by decide +kernel) (by decide +kernel) (by decide) (fun _ _ h => by rw [h.1]; rfl) (fun _ U U' hal hh h => ⟨h.1, h.2.1.mv hal hh, h.2.2.1.al hal, h.2.2.2.1.al hal, h.2.2.2.2.1.mv hal hh, h.2.2.2.2.2.1.there hal hh, h.2.2.2.2.2.2⟩) (fun r U U' V V' h1 hal h2 h => Got.mv r U U' V V' h1 hal h2 h) ?_
  intro p e s m args below meth c s₁ X0 hexec hbytes hml hret hlk hnm hown hh0 W hP
  obtain ⟨rfl, hB, f1, f2, hA, s1, hz, l0, l1, l2, hp⟩ := hP
  have a31 := hA.1.2.2.2
  have c1 : Steps p.tables e below (s₁.setTop (entryFrame m #[.ref a, .ref b, .int (Int32.ofNat o), .int (Int32.ofNat len), .null] 6)) (s₁.setTop (mkF m 0 #[.val (.ref a), .val (.ref b), .val (.int (Int32.ofNat o)), .val (.int (Int32.ofNat len)), .val .null, .unset] [])) := entry rfl
  have c2 : Steps p.tables e below (s₁.setTop (entryFrame m #[.ref a, .ref b, .int (Int32.ofNat o), .int (Int32.ofNat len), .null] 6)) (s₁.setTop (mkF m 1 #[.val (.ref a), .val (.ref b), .val (.int (Int32.ofNat o)), .val (.int (Int32.ofNat len)), .val .null, .unset] [.ref a])) := c1.trans (by
    refine XS.aloadN X0.here hexec rfl (hb hbytes d0) rfl rfl ?_
    exact Steps.refl _)
  obtain ⟨T3, X3, q3, st3⟩ := X0.oinit hexec hown (wks W (objW "java/lang/String" 1)) (g := (mkF m 1 #[.val (.ref a), .val (.ref b), .val (.int (Int32.ofNat o)), .val (.int (Int32.ofNat len)), .val .null, .unset] [.ref a])) rfl (by rw [hml]; rfl) (rest := []) rfl (hb hbytes d1) (W := 0) (by show 2 * 0 + 0 ≤ _; decide) (Nat.le_of_ble_eq_true rfl) (Nat.le_of_ble_eq_true rfl)
  have hh3 := q3.trans hh0
  have c4 : Steps p.tables e below (s₁.setTop (entryFrame m #[.ref a, .ref b, .int (Int32.ofNat o), .int (Int32.ofNat len), .null] 6)) (T3.setTop (mkF m 27 #[.val (.ref a), .val (.ref b), .val (.int (Int32.ofNat o)), .val (.int (Int32.ofNat len)), .val .null, .unset] [])) := (c2.trans (st3 _ (Steps.refl _))).trans (by
    refine XS.iloadN X3.here hexec rfl (hb hbytes d4) rfl ?_
    refine XS.ifYes X3.here hexec rfl (pc0 := 5) rfl (hb hbytes d5) rfl (i0_ne_t (nz32 (by omega) l0)) (by decide) rfl ?_
    exact Steps.refl _)
  obtain ⟨T5, X5, q5, st5⟩ := X3.sget hexec hown (wk W (.fieldLink "java/lang/String" 38 "java/lang/String" "COMPACT_STRINGS" "Z")) s1 (fun _ _ h => by rw [hh3]; exact h) (g := (mkF m 27 #[.val (.ref a), .val (.ref b), .val (.int (Int32.ofNat o)), .val (.int (Int32.ofNat len)), .val .null, .unset] [])) rfl (hb hbytes d27)
  have hh5 := q5.trans hh3
  have c6 : Steps p.tables e below (s₁.setTop (entryFrame m #[.ref a, .ref b, .int (Int32.ofNat o), .int (Int32.ofNat len), .null] 6)) (T5.setTop (mkF m 30 #[.val (.ref a), .val (.ref b), .val (.int (Int32.ofNat o)), .val (.int (Int32.ofNat len)), .val .null, .unset] [.int z])) := c4.trans (st5 _ (Steps.refl _))
  have c7 : Steps p.tables e below (s₁.setTop (entryFrame m #[.ref a, .ref b, .int (Int32.ofNat o), .int (Int32.ofNat len), .null] 6)) (T5.setTop (mkF m 36 #[.val (.ref a), .val (.ref b), .val (.int (Int32.ofNat o)), .val (.int (Int32.ofNat len)), .val .null, .unset] [.int (Int32.ofNat len), .int (Int32.ofNat o), .ref b])) := c6.trans (by
    refine XS.ifNo X5.here hexec rfl (hb hbytes d30) rfl (i0_eq_f hz) ?_
    refine XS.aloadN X5.here hexec rfl (hb hbytes d33) rfl rfl ?_
    refine XS.iloadN X5.here hexec rfl (hb hbytes d34) rfl ?_
    refine XS.iloadN X5.here hexec rfl (hb hbytes d35) rfl ?_
    exact Steps.refl _)
  obtain ⟨v8, T8, X8, E8, g8⟩ := X5.callS hexec (Cmp3.law l b A o len) hown (wks W (staticW "java/lang/String" 177 Cmp3.yN)) (wk W Cmp3.tab) (W := 0) (Nat.le_of_ble_eq_true rfl) (Nat.le_of_ble_eq_true rfl) (Nat.le_refl _) (by show 0 + len ≤ len; omega) (g := (mkF m 36 #[.val (.ref a), .val (.ref b), .val (.int (Int32.ofNat o)), .val (.int (Int32.ofNat len)), .val .null, .unset] [.int (Int32.ofNat len), .int (Int32.ofNat o), .ref b])) rfl (by rw [hml]; rfl) c7 (argsL := [.ref b, .int (Int32.ofNat o), .int (Int32.ofNat len)]) (rest := []) rfl rfl (by show 2 * 0 + 0 ≤ _; decide) (hb hbytes d36) (⟨rfl, hA.mv X5.warmed.alike hh5, l1, l2, hp⟩)
  obtain ⟨e8, z8⟩ := E8
  obtain ⟨rfl, N, n1, n2, n3, n4, n5, n6⟩ := NewArr.mv _ T5 s _ _ hh5.symm (Vm.Alike.refl _) rfl e8
  rw [hh5] at z8
  have hB1 := hB.keep X8.warmed.alike (n6 _ _ hB.1)
  have hne : s.heap.size ≠ a := (Nat.ne_of_lt (Array.getElem?_eq_some_iff.mp hB.1).1).symm
  have c9 : Steps p.tables e below (s₁.setTop (entryFrame m #[.ref a, .ref b, .int (Int32.ofNat o), .int (Int32.ofNat len), .null] 6)) (T8.setTop (mkF m 39 #[.val (.ref a), .val (.ref b), .val (.int (Int32.ofNat o)), .val (.int (Int32.ofNat len)), .val .null, .unset] [.ref s.heap.size])) := g8
  have c10 : Steps p.tables e below (s₁.setTop (entryFrame m #[.ref a, .ref b, .int (Int32.ofNat o), .int (Int32.ofNat len), .null] 6)) (T8.setTop (mkF m 45 #[.val (.ref a), .val (.ref b), .val (.int (Int32.ofNat o)), .val (.int (Int32.ofNat len)), .val .null, .val (.ref s.heap.size)] [.int (Int32.ofNat N.slots.size), .ref s.heap.size, .ref a])) := by
    have hc : Steps p.tables e below (s₁.setTop (entryFrame m #[.ref a, .ref b, .int (Int32.ofNat o), .int (Int32.ofNat len), .null] 6)) (T8.setTop (mkF m 45 #[.val (.ref a), .val (.ref b), .val (.int (Int32.ofNat o)), .val (.int (Int32.ofNat len)), .val .null, .val (.ref s.heap.size)] [.int (Int32.ofNat len), .ref s.heap.size, .ref a])) := c9.trans (by
      refine XS.astore X8.here hexec rfl (hb hbytes d39) rfl rfl rfl ?_
      refine XS.aloadN X8.here hexec rfl (hb hbytes d41) rfl rfl ?_
      refine XS.aload X8.here hexec rfl (hb hbytes d42) rfl rfl ?_
      refine XS.iloadN X8.here hexec rfl (hb hbytes d44) rfl ?_
      exact Steps.refl _)
    rw [n4]; exact hc
  obtain ⟨v11, T11, X11, E11, g11⟩ := X8.callS hexec (CodL.law l s.heap.size N) hown (wks W (staticW "java/lang/String" 47 CodL.yN)) (wk W CodL.tab) (W := 1) (Nat.le_of_ble_eq_true rfl) (Nat.le_of_ble_eq_true rfl) (Nat.le_refl _) (by show 0 + len + 0 ≤ len; omega) (g := (mkF m 45 #[.val (.ref a), .val (.ref b), .val (.int (Int32.ofNat o)), .val (.int (Int32.ofNat len)), .val .null, .val (.ref s.heap.size)] [.int (Int32.ofNat N.slots.size), .ref s.heap.size, .ref a])) rfl (by rw [hml]; rfl) c10 (argsL := [.ref s.heap.size, .int (Int32.ofNat N.slots.size)]) (rest := [.ref a]) rfl rfl (by show 2 * 0 + (1 + 0) ≤ _; decide) (hb hbytes d45) (⟨rfl, n1⟩)
  obtain ⟨rfl, q11⟩ := E11
  have hB11 := hB1.mv (X8.warmed.alike.symm.trans X11.warmed.alike) q11
  have c12 : Steps p.tables e below (s₁.setTop (entryFrame m #[.ref a, .ref b, .int (Int32.ofNat o), .int (Int32.ofNat len), .null] 6)) (T11.setTop (mkF m 48 #[.val (.ref a), .val (.ref b), .val (.int (Int32.ofNat o)), .val (.int (Int32.ofNat len)), .val .null, .val (.ref s.heap.size)] [.int 0, .ref a])) := g11
  obtain ⟨T13, X13, p13, bl13, sl13, st13⟩ := X11.finit hexec hown (wk W (.fieldLink "java/lang/String" 15 "java/lang/String" "coder" "B")) (Or.inr ⟨_, (wk W (.laysFinal "java/lang/String" "java/lang/String" "coder" "B"))⟩) (Or.inl ⟨rfl, hnm⟩) f2 (Or.inl rfl) hB11 (t := .byte) (by decide +kernel) rfl (g := (mkF m 48 #[.val (.ref a), .val (.ref b), .val (.int (Int32.ofNat o)), .val (.int (Int32.ofNat len)), .val .null, .val (.ref s.heap.size)] [.int 0, .ref a])) rfl (rest := []) rfl (hb hbytes d48)
  have c14 : Steps p.tables e below (s₁.setTop (entryFrame m #[.ref a, .ref b, .int (Int32.ofNat o), .int (Int32.ofNat len), .null] 6)) (T13.setTop (mkF m 54 #[.val (.ref a), .val (.ref b), .val (.int (Int32.ofNat o)), .val (.int (Int32.ofNat len)), .val .null, .val (.ref s.heap.size)] [.ref s.heap.size, .ref a])) := (c12.trans (st13 _ (Steps.refl _))).trans (by
    refine XS.aloadN X13.here hexec rfl (hb hbytes d51) rfl rfl ?_
    refine XS.aload X13.here hexec rfl (hb hbytes d52) rfl rfl ?_
    exact Steps.refl _)
  obtain ⟨T15, X15, p15, bl15, sl15, st15⟩ := X13.finit hexec hown (wk W (.fieldLink "java/lang/String" 9 "java/lang/String" "value" "[B")) (Or.inr ⟨_, (wk W (.laysFinal "java/lang/String" "java/lang/String" "value" "[B"))⟩) (Or.inl ⟨rfl, hnm⟩) f1 (Or.inl rfl) bl13 (t := (.array .byte)) (by decide +kernel) rfl (g := (mkF m 54 #[.val (.ref a), .val (.ref b), .val (.int (Int32.ofNat o)), .val (.int (Int32.ofNat len)), .val .null, .val (.ref s.heap.size)] [.ref s.heap.size, .ref a])) rfl (rest := []) rfl (hb hbytes d54)
  have c16 : Steps p.tables e below (s₁.setTop (entryFrame m #[.ref a, .ref b, .int (Int32.ofNat o), .int (Int32.ofNat len), .null] 6)) (T15.setTop (mkF m 57 #[.val (.ref a), .val (.ref b), .val (.int (Int32.ofNat o)), .val (.int (Int32.ofNat len)), .val .null, .val (.ref s.heap.size)] [])) := c14.trans (st15 _ (Steps.refl _))
  have ap := apart (Or.inr ⟨_, (wk W (.laysFinal "java/lang/String" "java/lang/String" "value" "[B"))⟩) (Or.inr ⟨_, (wk W (.laysFinal "java/lang/String" "java/lang/String" "coder" "B"))⟩) f1 f2 (t₁ := .array .byte) (t₂ := .byte) (by decide +kernel) (by decide +kernel) (by decide)
  have al := X8.warmed.alike.symm.trans X15.warmed.alike
  have n7 : T11.heap[s.heap.size]? = some N := by rw [q11]; exact n1.1
  exact ⟨T15, none, _, _, _, X15, by simp, rfl, by omega, (fun _ => rfl), ⟨rfl, _, N, bl15, ((Same.refl D _).set _ (by simp)).set _ (by simp), sl15, (Cell.slots_setSlot_ne _ ap).trans sl13, n1.keep al (p15.other hne (p13.other hne n7)), n2, by rw [al.findClass]; exact n3, n4, n5, fun y c h1 h2 => p15.other h1 (p13.other h1 (by rw [q11]; exact n6 y c h2)), by rw [p15.2.2, p13.2.2, q11]; exact z8⟩, fun fs hl => c16.trans (X15.returnOut hexec hret (hb hbytes d57) hl)⟩
end New4
namespace New1
def yN : MethodName := ⟨"java/lang/String", "<init>", "([C)V"⟩
abbrev yB : ByteArray := jdk_42_method_3_code
theorem d0 : decode yB 0 = .ok (.aload_n 0, 1) := by decide +kernel
theorem d1 : decode yB 1 = .ok (.aload_n 1, 1) := by decide +kernel
theorem d2 : decode yB 2 = .ok (.iconst 0, 1) := by decide +kernel
theorem d3 : decode yB 3 = .ok (.aload_n 1, 1) := by decide +kernel
theorem d4 : decode yB 4 = .ok (.arraylength, 1) := by decide +kernel
theorem d5 : decode yB 5 = .ok (.aconst_null, 1) := by decide +kernel
theorem d6 : decode yB 6 = .ok (.invokespecial 27, 3) := by decide +kernel
theorem d9 : decode yB 9 = .ok (.return_, 1) := by decide +kernel
def site : List Cond := [New4.tab] ++ initW "java/lang/String" 27 New4.yN
def tab : Cond := tabOf yN yB 2 none site
def P (a : Addr) (D : Cell) (fV fC : Field) (b : Addr) (A : Cell) (z : Int32) (args : Array Value) (s : State) : Prop := args = #[.ref a, .ref b] ∧ Blank "java/lang/String" a D s ∧ Found "java/lang/String" "value" "[B" fV s ∧ Found "java/lang/String" "coder" "B" fC s ∧ Ch b A s ∧ StaticIs s "java/lang/String" "COMPACT_STRINGS" "Z" (.int z) ∧ ¬ z = 0 ∧ 0 < A.slots.size ∧ A.slots.size ≤ 536870912 ∧ ∀ i, i < A.slots.size → ¬ 255 < cv A i
def E (a : Addr) (D : Cell) (fV fC : Field) (A : Cell) (r : Option Value) (s u : State) : Prop := Got a D fV fC A 0 A.slots.size r s u
/-- new String(chars), not empty, no char above 255: a Latin-1 String of their low bytes -/
theorem law (l : Launch) (a : Addr) (D : Cell) (fV fC : Field) (b : Addr) (A : Cell) (z : Int32) : Law l yN 2 1 3 52 yB 2 none site (P a D fV fC b A z) (E a D fV fC A) [⟨a, fC.slot⟩, ⟨a, fV.slot⟩] 1 A.slots.size := by
  refine Law.of_walk (plainFor_of_name (by decide +kernel)) (by decide +kernel) (by decide +kernel) (by decide) (fun _ _ h => by rw [h.1]; rfl) (fun _ U U' hal hh h => ⟨h.1, h.2.1.mv hal hh, h.2.2.1.al hal, h.2.2.2.1.al hal, h.2.2.2.2.1.mv hal hh, h.2.2.2.2.2.1.there hal hh, h.2.2.2.2.2.2⟩) (fun r U U' V V' h1 hal h2 h => Got.mv r U U' V V' h1 hal h2 h) ?_
  intro p e s m args below meth c s₁ X0 hexec hbytes hml hret hlk hnm hown hh0 W hP
  obtain ⟨rfl, hB, f1, f2, hA, s1, hz, l0, l2, hp⟩ := hP
  have c1 : Steps p.tables e below (s₁.setTop (entryFrame m #[.ref a, .ref b] 2)) (s₁.setTop (mkF m 0 #[.val (.ref a), .val (.ref b)] [])) := entry rfl
  have c2 : Steps p.tables e below (s₁.setTop (entryFrame m #[.ref a, .ref b] 2)) (s₁.setTop (mkF m 6 #[.val (.ref a), .val (.ref b)] [.null, .int (Int32.ofNat A.slots.size), .int 0, .ref b, .ref a])) := c1.trans (by
    refine XS.aloadN X0.here hexec rfl (hb hbytes d0) rfl rfl ?_
    refine XS.aloadN X0.here hexec rfl (hb hbytes d1) rfl rfl ?_
    refine iconstV X0.here hexec rfl 0 (hb hbytes d2) (by decide) ?_
    refine XS.aloadN X0.here hexec rfl (hb hbytes d3) rfl rfl ?_
    refine X0.alen hexec (hA.1.mv X0.warmed.alike hh0) rfl rfl (hb hbytes d4) ?_
    refine XS.aconstNull X0.here hexec rfl (hb hbytes d5) ?_
    exact Steps.refl _)
  obtain ⟨v3, T3, X3, E3, g3⟩ := X0.callN hexec (New4.law l a D fV fC b A z 0 A.slots.size) rfl hown (wks W (initW "java/lang/String" 27 New4.yN)) (W New4.tab (by simp only [site, List.mem_cons, List.mem_append, true_or, or_true])) (W := 0) (Nat.le_of_ble_eq_true rfl) (Nat.le_of_ble_eq_true rfl) (Nat.le_refl _) (by show 0 + A.slots.size ≤ A.slots.size; omega) (g := (mkF m 6 #[.val (.ref a), .val (.ref b)] [.null, .int (Int32.ofNat A.slots.size), .int (Int32.ofNat 0), .ref b, .ref a])) rfl (by rw [hml]; rfl) c2 (argsL := [.ref b, .int (Int32.ofNat 0), .int (Int32.ofNat A.slots.size), .null]) (rest := []) rfl rfl (by show 2 * 0 + 0 ≤ _; decide) (hb hbytes d6) (⟨rfl, hB.mv X0.warmed.alike hh0, f1.al X0.warmed.alike, f2.al X0.warmed.alike, hA.mv X0.warmed.alike hh0, s1.there X0.warmed.alike hh0, hz, l0, by omega, l2, fun i hi => by rw [Nat.zero_add]; exact hp i hi⟩)
  have e0 := Got.mv _ s₁ s _ _ hh0.symm (Vm.Alike.refl _) rfl E3
  obtain rfl := e0.1
  have c4 : Steps p.tables e below (s₁.setTop (entryFrame m #[.ref a, .ref b] 2)) (T3.setTop (mkF m 9 #[.val (.ref a), .val (.ref b)] [])) := g3
  exact ⟨T3, none, _, _, _, X3, by simp, rfl, by omega, (fun _ => rfl), e0, fun fs hl => c4.trans (X3.returnOut hexec hret (hb hbytes d9) hl)⟩
theorem pays {l : Launch} {R : Room} {p : Program} {e : Env} {below : List Frame} {s : State} {sargs : Array Value} {len W : Nat} (a : Addr) (D : Cell) (fV fC : Field) (b : Addr) (A : Cell) (z : Int32) (htab : tab.before sargs s = true) (hfr : 4 ≤ R.frames) (hlo : W + 65 ≤ R.locals) :
    Back l R p e below s sargs yN len W (fun A₁ a₁ => A₁.cells + 1 ≤ R.cells ∧ A₁.slots + A.slots.size ≤ R.slots ∧ P a D fV fC b A z a₁ A₁.U) (fun A₁ _ v₁ B₁ => E a D fV fC A v₁ A₁.U B₁.U ∧ B₁.locs = A₁.locs ++ [⟨a, fC.slot⟩, ⟨a, fV.slot⟩] ∧ B₁.cells = A₁.cells + 1 ∧ B₁.slots = A₁.slots + A.slots.size) :=
  (law l a D fV fC b A z).pays htab hfr (by omega)
end New1
/-- the byte, read back as charAt reads it, is the char -/
theorem lo8_mask {x : Int32} (h0 : ¬ x < 0) (h1 : ¬ 255 < x) : lo8 x &&& 255 = x := by
  have t : ∀ k : Fin 256, lo8 (Int32.ofNat k.val) &&& 255 = Int32.ofNat k.val := by decide +kernel
  rw [Int32.lt_iff_toInt_lt] at h0 h1
  have e0 : (0 : Int32).toInt = 0 := rfl
  have e1 : (255 : Int32).toInt = 255 := rfl
  obtain ⟨k, hk⟩ : ∃ k : Nat, x.toInt = k := ⟨x.toInt.toNat, by omega⟩
  have hx : x = Int32.ofNat k := Int32.toInt_inj.mp (by rw [hk, Int32.toInt_ofNat_small (by omega)])
  rw [hx]
  exact t ⟨k, by omega⟩
end StrChars
namespace StrChars.Road
open Jvm Sem ClassFile Op Lib Jvm.Stand Jvm.Free Jvm.Free.XT
open Jvm.Lib.Cold (StaticIs)
abbrev ST : String := "java/lang/String"
/-- every table word that New1's law asks, flat -/
abbrev words : List Jvm.Cond := [.code New1.yN New1.yB 2 none, .initialized ST, .methodLink ST 27 New4.yN, .instanceMethod New4.yN,
  .code New4.yN New4.yB 6 none, .fieldLink ST 38 ST "COMPACT_STRINGS" "Z", .laysFinal ST ST "value" "[B", .fieldLink ST 9 ST "value" "[B", .laysFinal ST ST "coder" "B", .fieldLink ST 15 ST "coder" "B",
  .methodLink ST 1 Lib.objectInit, .instanceMethod Lib.objectInit, .code Lib.objectInit ⟨#[0xb1]⟩ 1 none, .methodLink ST 177 Cmp3.yN, .static Cmp3.yN, .methodLink ST 47 CodL.yN, .static CodL.yN,
  .code Cmp3.yN Cmp3.yB 6 (some (.array .byte)), .initialized U16, .arrayClass .byte, .methodLink U16 115 Cmp5.yN, .static Cmp5.yN, .code Cmp5.yN Cmp5.yB 7 (some .int), .code CodL.yN CodL.yB 2 (some .byte)]
theorem tab_of {a : Array Value} {s : State} (h : ∀ w ∈ words, w.before a s = true) : New1.tab.before a s = true := by
  have h5 : Cmp5.tab.before a s = true := unparts (wk h (.code Cmp5.yN Cmp5.yB 7 (some .int))) (wks h (.initialized Cmp5.yN.cls :: Cmp5.site))
  have hc : CodL.tab.before a s = true := unparts (wk h (.code CodL.yN CodL.yB 2 (some .byte))) (wks h (.initialized CodL.yN.cls :: CodL.site))
  have q5 : ∀ w ∈ Cmp5.tab :: words, w.before a s = true := fun w hw => (List.mem_cons.mp hw).elim (fun e => e ▸ h5) (h w)
  have h3 : Cmp3.tab.before a s = true := unparts (wk q5 (.code Cmp3.yN Cmp3.yB 6 (some (.array .byte)))) (wks q5 (.initialized Cmp3.yN.cls :: Cmp3.site))
  have q3 : ∀ w ∈ Cmp3.tab :: CodL.tab :: words, w.before a s = true := fun w hw => (List.mem_cons.mp hw).elim (fun e => e ▸ h3) fun hw => (List.mem_cons.mp hw).elim (fun e => e ▸ hc) (h w)
  have h4 : New4.tab.before a s = true := unparts (wk q3 (.code New4.yN New4.yB 6 none)) (wks q3 (.initialized New4.yN.cls :: New4.site))
  have q4 : ∀ w ∈ New4.tab :: words, w.before a s = true := fun w hw => (List.mem_cons.mp hw).elim (fun e => e ▸ h4) (h w)
  exact unparts (wk q4 (.code New1.yN New1.yB 2 none)) (wks q4 (.initialized New1.yN.cls :: New1.site))
/-- the words ride from the start Z to the walk's own state -/
theorem moved {Z s : State} {a0 args : Array Value} (hZ : Z.Warmed39 s.vm) (hw : ∀ d ∈ words, d.before a0 Z = true) : ∀ d ∈ words, d.before args s = true := fun d hd => by
  have q := hw d hd
  have t : ∀ d ∈ words, d = .arrayClass .byte ∨ (d.onTables && d.keepsFace) = true := by decide +kernel
  rcases t d hd with rfl | t
  · exact RoadKit.mvA hZ q
  · exact RoadKit.mv hZ q t
/-- WHAT COMES BACK, over the tables of the start Z: h the heap at the call, h' behind it -/
def Q (Z : State) (x : Addr) (A : Cell) (h : Heap) (v : Option Value) (h' : Heap) (L : List Loc) : Prop := v = none ∧ (∀ y ∈ L, y.base = x) ∧ RoadKit.Keep h h' [x] ∧ h'.size = h.size + 1 ∧ RoadKit.Exa Z h' x ST ∧ RoadKit.Fld Z h' x ST "value" "[B" (.ref h.size) ∧ RoadKit.Fld Z h' x ST "coder" "B" (.int 0) ∧
  (∃ V : Cell, RoadKit.Arr Z h' h.size V .byte ∧ V.vm = .none ∧ Z.vm.findClass "[B" = some V.cls ∧ V.slots.size = A.slots.size ∧ ∀ j, j < A.slots.size → V.slots[j]? = some (.int (lo8 (cv A j)))) ∧
  ∀ (O n d : String) (w : Value), RoadKit.Fld Z h x O n d w → RoadKit.slotOf Z O n d ≠ RoadKit.slotOf Z ST "value" "[B" → RoadKit.slotOf Z O n d ≠ RoadKit.slotOf Z ST "coder" "B" → RoadKit.Fld Z h' x O n d w
/-- **new String(chars) AT A CALL, IN THE ROAD'S FORM**: for specialBack behind newO: x the fresh String, b the char[] with the cell A -/
theorem back {p : Program} {l : Launch} {e : Env} {R : Room} {s : State} {args : Array Value} {below : List Frame} {len W : Nat} {Z : State} {a0 : Array Value} {h : Heap} (hZ : Z.Warmed39 s.vm) (hw : ∀ d ∈ words, d.before a0 Z = true) {kI : Nat} (wi : (Jvm.Cond.instantiable ST kI).before a0 Z = true)
    {x b : Addr} {A : Cell} {z : Int32} {v0 c0 : Value} (E : RoadKit.Exa Z h x ST) (V : RoadKit.Fld Z h x ST "value" "[B" v0) (C : RoadKit.Fld Z h x ST "coder" "B" c0) (K : RoadKit.Arr Z h b A .char) (hty : Typed .char A) (S : RoadKit.Sta Z h ST "COMPACT_STRINGS" "Z" (.int z)) (hz : ¬ z = 0)
    (l0 : 0 < A.slots.size) (l2 : A.slots.size ≤ 536870912) (hp : ∀ i, i < A.slots.size → ¬ 255 < cv A i) (hfr : 4 ≤ R.frames) (hlo : W + 65 ≤ R.locals) :
    Back l R p e below s args New1.yN len W (fun P a => a = #[.ref x, .ref b] ∧ P.U.heap = h ∧ P.cells + 1 ≤ R.cells ∧ P.slots + A.slots.size ≤ R.slots)
      (fun P _ v B => ∃ L, Q Z x A h v B.U.heap L ∧ B.locs = P.locs ++ L ∧ B.cells = P.cells + 1 ∧ B.slots = P.slots + A.slots.size) := by
  intro m meth c P g ig mk a X hg hsize hdg hW hn hp'
  obtain ⟨rfl, rfl, r1, r2⟩ := hp'
  have al : Z.vm.Alike P.U.vm := hZ.alike.trans X.warmed.alike
  obtain ⟨D, cfV, kV, iV, fV, hD, gV, stV, knV, obV, asV, slV⟩ := id V
  obtain ⟨D', cfC, kC, iC, fC, hD', gC, stC, -, -, asC, slC⟩ := id C
  cases hD.symm.trans hD'
  obtain ⟨D2, kD, e1, e2, e3, e4, e5⟩ := id E
  cases hD.symm.trans e1
  obtain ⟨c2, k2, i1, i2, i3, -⟩ := Cond.instantiable_spec wi
  cases e2.symm.trans i1
  cases e3.symm.trans i2
  obtain ⟨kU, u1, u2⟩ := al.2.2 _ _ e3
  have hB : Blank ST x D P.U := ⟨hD, ⟨knV, fun q hq => by rw [hq] at obV; cases obV⟩, by rw [al.findClass]; exact e2, kU, u1, by rw [u2]; exact i3, by rw [u2]; exact e5 i3⟩
  have F1 : Found ST "value" "[B" fV P.U := ⟨SBG.found_only al ⟨cfV, kV, iV, gV⟩, stV⟩
  have F2 : Found ST "coder" "B" fC P.U := ⟨SBG.found_only al ⟨cfC, kC, iC, gC⟩, stC⟩
  have hA : Ch b A P.U := ⟨⟨K.1, State.isArrayOf_alike al K.2.1, K.2.2, by omega⟩, hty⟩
  have hS : StaticIs P.U ST "COMPACT_STRINGS" "Z" (.int z) := by
    obtain ⟨cfS, iS, kS, fS, st, cS, t1, t2, t3, t4, t5, t6, t7⟩ := S
    exact StaticIs.there (s := { Z with heap := P.U.heap }) ⟨cfS, iS, kS, fS, st, cS, t1, t2, t3, t4, t5, (fun q => by rw [q] at t6; cases t6), t7⟩ al rfl
  obtain ⟨v, B, X', ⟨⟨hv, E', V', q1, q2, q3, q4, q5, q6, q7, q8, q9, q10, q11⟩, hl, hc, hs⟩, st⟩ := New1.pays x D fV fC b A z (tab_of (moved hZ hw)) hfr hlo m meth c P g ig mk _ X hg hsize hdg hW hn ⟨r1, r2, rfl, hB, F1, F2, hA, hS, hz, l0, l2, hp⟩
  have al' : Z.vm.Alike B.U.vm := hZ.alike.trans X'.warmed.alike
  have hsz : E'.slots.size = D.slots.size := by
    obtain ⟨-, -, -, kB, w1, w2, w3⟩ := q1
    obtain ⟨kB', y1, y2⟩ := al'.2.2 _ _ e3
    rw [q2.2.1] at w1
    cases w1.symm.trans y1
    rw [w3, e5 i3, y2]
  refine ⟨v, B, X', ⟨_, ⟨hv, ?_, ⟨by omega, fun y cy hy hn' => q10 y cy (by simpa using hn') hy, fun y cy hy => ?_⟩, q11, ⟨E', _, q1.1, by rw [q2.2.1]; exact e2, by rw [q2.2.1]; exact e3, by rw [q2.1]; exact obV, fun _ => by rw [hsz]; exact e5 i3⟩,
    ⟨E', cfV, kV, iV, fV, q1.1, gV, stV, by rw [q2.1]; exact knV, by rw [q2.1]; exact obV, by rw [q2.2.1]; exact asV, q3⟩, ⟨E', cfC, kC, iC, fC, q1.1, gC, stC, by rw [q2.1]; exact knV, by rw [q2.1]; exact obV, by rw [q2.2.1]; exact asC, q4⟩,
    ⟨V', ⟨q5.1, State.isArrayOf_alike al'.symm q5.2.1, q5.2.2.1⟩, q6, by rw [← al'.findClass]; exact q7, q8, fun j hj => by have := q9 j hj; rwa [Nat.zero_add] at this⟩, fun O n d w F n1 n2 => ?_⟩, hl, hc, hs⟩, st⟩
  · intro y hy
    simp only [List.mem_cons, List.not_mem_nil, or_false] at hy
    rcases hy with rfl | rfl <;> rfl
  · by_cases q : y = x
    · subst q
      cases hD.symm.trans hy
      exact ⟨E', q1.1, q2.2.1, q2.1, hsz⟩
    · exact ⟨cy, q10 y cy q hy, rfl, rfl, rfl⟩
  · obtain ⟨D3, cf, k, i, f, g1, g2, g3, g4, g5, g6, g7⟩ := F
    cases hD.symm.trans g1
    simp only [RoadKit.slotOf, g2, gV, gC, Option.map_some, Option.getD_some] at n1 n2
    exact ⟨E', cf, k, i, f, q1.1, g2, g3, by rw [q2.1]; exact g4, by rw [q2.1]; exact g5, by rw [q2.2.1]; exact g6, by rw [q2.2.2 f.slot (by simp [n1, n2])]; exact g7⟩
end StrChars.Road
namespace StrChars.Road
open Jvm Sem ClassFile Op Lib Jvm.Stand Jvm.Free Jvm.Free.XT
/-- WHAT COMES BACK, the byte[] as a list of values -/
def QA (Z : State) (x : Addr) (zn : Int32) (cs : List Int32) (h : Heap) (v : Option Value) (h' : Heap) (L : List Loc) : Prop := v = none ∧ (∀ y ∈ L, y.base = x) ∧ RoadKit.Keep h h' [x] ∧ h'.size = h.size + 1 ∧ RoadKit.Exa Z h' x ST ∧ RoadKit.Fld Z h' x ST "value" "[B" (.ref h.size) ∧ RoadKit.Fld Z h' x ST "coder" "B" (.int 0) ∧
  (∃ kb, Z.vm.findClass "[B" = some kb ∧ RoadKit.Arv Z h' h.size kb .byte zn (cs.map fun c => .int (lo8 c)) (.int 0)) ∧
  ∀ (O n d : String) (w : Value), RoadKit.Fld Z h x O n d w → RoadKit.slotOf Z O n d ≠ RoadKit.slotOf Z ST "value" "[B" → RoadKit.slotOf Z O n d ≠ RoadKit.slotOf Z ST "coder" "B" → RoadKit.Fld Z h' x O n d w
/-- **new String(chars) AT A CALL, THE ARRAYS AS LISTS**: the char[] at b holds cs, not empty, no char above 255 -/
theorem backArv {p : Program} {l : Launch} {e : Env} {R : Room} {s : State} {args : Array Value} {below : List Frame} {len W : Nat} {Z : State} {a0 : Array Value} {h : Heap} (hZ : Z.Warmed39 s.vm) (hw : ∀ d ∈ words, d.before a0 Z = true) {kI : Nat} (wi : (Jvm.Cond.instantiable ST kI).before a0 Z = true)
    {x b : Addr} {k : ClassId} {zn z : Int32} {cs : List Int32} {dv v0 c0 : Value} (E : RoadKit.Exa Z h x ST) (V : RoadKit.Fld Z h x ST "value" "[B" v0) (C : RoadKit.Fld Z h x ST "coder" "B" c0) (K : RoadKit.Arv Z h b k .char zn (cs.map Value.int) dv) (S : RoadKit.Sta Z h ST "COMPACT_STRINGS" "Z" (.int z)) (hz : ¬ z = 0)
    (hlen : zn.toNatClampNeg = cs.length) (h0 : 0 < cs.length) (hbig : cs.length ≤ 536870912) (hall : ∀ c ∈ cs, ¬ 255 < c) (hfr : 4 ≤ R.frames) (hlo : W + 65 ≤ R.locals) :
    Back l R p e below s args New1.yN len W (fun P a => a = #[.ref x, .ref b] ∧ P.U.heap = h ∧ P.cells + 1 ≤ R.cells ∧ P.slots + cs.length ≤ R.slots)
      (fun P _ v B => ∃ L, QA Z x zn cs h v B.U.heap L ∧ B.locs = P.locs ++ L ∧ B.cells = P.cells + 1 ∧ B.slots = P.slots + cs.length) := by
  obtain ⟨A, K1, K2, K3, K4, K5, K6⟩ := K
  have e : A.slots.size = cs.length := K3.trans hlen
  have hat : ∀ (i : Nat) (hi : i < cs.length), A.slots[i]? = some (.int cs[i]) := fun i hi => by rw [K5 i (by omega)]; simp [List.getD_eq_getElem?_getD, hi]
  have hcv : ∀ (i : Nat) (hi : i < cs.length), cv A i = cs[i] := fun i hi => by unfold cv; rw [hat i hi]
  have hty : Typed .char A := fun i v hv => by
    have hi : i < A.slots.size := (Array.getElem?_eq_some_iff.mp hv).1
    have q := K5 i hi
    rw [hv] at q
    rw [Option.some.inj q]
    exact K6 i hi
  refine Back.mono (back hZ hw wi E V C K1 hty S hz (by omega) (by omega) (fun i hi => by rw [hcv i (by omega)]; exact hall _ (List.getElem_mem _)) hfr hlo) (fun P a hp => ⟨hp.1, hp.2.1, hp.2.2.1, by rw [e]; exact hp.2.2.2⟩) (fun P a v B hp hq => ?_)
  obtain ⟨L, ⟨q1, q2, q3, q4, q5, q6, q7, ⟨V', v1, v2, v3, v4, v5⟩, q9⟩, hl, hc, hs⟩ := hq
  refine ⟨L, ⟨q1, q2, q3, q4, q5, q6, q7, ⟨V'.cls, v3, V', v1, rfl, by rw [v4, e, hlen], K4, fun i hi => ?_, fun i hi => ?_⟩, q9⟩, hl, hc, by rw [hs, e]⟩
  · have hi' : i < cs.length := by omega
    rw [v5 i (by omega), hcv i hi']; simp [List.getD_eq_getElem?_getD, hi']
  · have hi' : i < cs.length := by omega
    simp only [List.getD_eq_getElem?_getD, List.getElem?_map, List.getElem?_eq_getElem hi', Option.map_some, Option.getD_some]
    exact fits_lo8 _
end StrChars.Road
namespace StrChars.Road
open Jvm Sem ClassFile Op Lib Jvm.Stand Jvm.Free Jvm.Free.XT
/-- WHAT COMES BACK, in the writer's own shape -/
def QV (Z : State) (x : Addr) (N : Int32) (bs : List Int32) (h : Heap) (n0 : Nat) (v : Option Value) (h' : Heap) (L : List Loc) : Prop := v = none ∧ RoadKit.Fr n0 L ∧ RoadKit.Keep h h' [x] ∧ RoadKit.Exa Z h' x ST ∧ RoadKit.Fld Z h' x ST "coder" "B" (.int 0) ∧
  ∃ (t : Addr) (kb : ClassId), n0 ≤ t ∧ h.size ≤ t ∧ ¬ t = x ∧ RoadKit.Fld Z h' x ST "value" "[B" (.ref t) ∧ RoadKit.Arv Z h' t kb .byte N (bs.map Value.int) (.int 0)
/-- **new String(chars) AT A CALL, FOR THE WRITER**: a char[] of n known ints, each 0 to 255 -/
theorem backV {p : Program} {l : Launch} {e : Env} {R : Room} {s : State} {args : Array Value} {below : List Frame} {len W : Nat} {Z : State} {a0 : Array Value} {h : Heap} (hZ : Z.Warmed39 s.vm) (hw : ∀ d ∈ words, d.before a0 Z = true) {kI : Nat} (wi : (Jvm.Cond.instantiable ST kI).before a0 Z = true)
    {x b : Addr} {kC : ClassId} {cs bs : List Int32} {d v0 c0 : Value} {z N : Int32} {n n0 : Nat} (hx0 : n0 ≤ x) (hh0 : n0 ≤ h.size) (E : RoadKit.Exa Z h x ST) (V : RoadKit.Fld Z h x ST "value" "[B" v0) (C : RoadKit.Fld Z h x ST "coder" "B" c0) (K : RoadKit.Arv Z h b kC .char N (cs.map Value.int) d) (S : RoadKit.Sta Z h ST "COMPACT_STRINGS" "Z" (.int z)) (hz : ¬ z = 0)
    (hn : cs.length = n) (hN : N = Int32.ofNat n) (l0 : 0 < n) (l2 : n ≤ 4000) (hp : ∀ c ∈ cs, ¬ c < 0 ∧ ¬ (255 : Int32) < c) (hb : bs = cs.map (fun c => c.toInt8.toInt32)) (hfr : 4 ≤ R.frames) (hlo : W + 65 ≤ R.locals) :
    Back l R p e below s args (⟨"java/lang/String", "<init>", "([C)V"⟩ : MethodName) len W (fun P a => a = #[.ref x, .ref b] ∧ P.U.heap = h ∧ P.cells + 1 ≤ R.cells ∧ P.slots + n ≤ R.slots)
      (fun P _ v B => ∃ L, QV Z x N bs h n0 v B.U.heap L ∧ B.locs = P.locs ++ L ∧ B.cells = P.cells + 1 ∧ B.slots = P.slots + n) := by
  subst hn hN hb
  refine Back.mono (backArv hZ hw wi E V C K S hz (n32 (by omega)) l0 (by omega) (fun c hc => (hp c hc).2) hfr hlo) (fun P a hp => hp) (fun P a v B hp hq => ?_)
  obtain ⟨L, ⟨q1, q2, q3, q4, q5, q6, q7, ⟨kb, v1, v2⟩, q9⟩, hl, hc, hs⟩ := hq
  exact ⟨L, ⟨q1, fun y hy => by rw [q2 y hy]; exact hx0, q3, q5, q7, h.size, kb, hh0, Nat.le_refl _, Nat.ne_of_gt E.lt, q6, by rw [List.map_map]; exact v2⟩, hl, hc, hs⟩
end StrChars.Road
namespace StrChars
open Jvm Sem ClassFile Op Lib Jvm.Stand Jvm.Free.XT Jvm.Free.ALB Jvm.Free.JM Jvm.Free
open Jvm.Lib.Cold (StaticIs)
def hi8 (x : Int32) : Int32 := lo8 (x >>> ((8 : Int32) &&& 31))
/-- what StringUTF16.getChar makes of two bytes -/
def pairCh (u v : Int32) : Int32 := (((u &&& 255) <<< ((0 : Int32) &&& 31)) ||| ((v &&& 255) <<< ((8 : Int32) &&& 31))).toUInt32.toUInt16.toUInt32.toInt32
theorem lo8_and (x : Int32) : (lo8 x &&& 255).toBitVec.toNat = x.toBitVec.toNat % 256 := by
  have h : (lo8 x).toBitVec = (x.toBitVec.signExtend 8).signExtend 32 := by rw [lo8, Int8.toBitVec_toInt32, Int32.toBitVec_toInt8]
  rw [Int32.toBitVec_and, BitVec.toNat_and, h]
  have e : ((x.toBitVec.signExtend 8).signExtend 32).toNat % 256 = x.toBitVec.toNat % 256 := by
    rw [BitVec.toNat_signExtend]
    have hlt := x.toBitVec.isLt
    simp only [BitVec.toNat_setWidth, BitVec.toNat_signExtend]
    split <;> split <;> omega
  rw [← e]
  exact Nat.and_two_pow_sub_one_eq_mod _ 8
theorem pair_says {c : Int32} (h0 : ¬ c < 0) (h1 : ¬ 65535 < c) : pairCh (lo8 c) (hi8 c) = c := by
  rw [Int32.lt_iff_toInt_lt] at h0 h1
  have e0 : (0 : Int32).toInt = 0 := rfl
  have e1 : (65535 : Int32).toInt = 65535 := rfl
  have hc : c.toInt = c.toBitVec.toNat := by
    have := c.toBitVec.isLt
    have e : c.toInt = c.toBitVec.toInt := rfl
    rw [e] at h0 h1
    rw [e]
    rw [BitVec.toInt_eq_toNat_cond] at h0 h1 ⊢
    split at h0 <;> split <;> omega
  have hn : c.toBitVec.toNat < 65536 := by omega
  have a1 := lo8_and c
  have a2 : (hi8 c &&& 255).toBitVec.toNat = c.toBitVec.toNat / 256 := by
    rw [hi8, lo8_and]
    have e : ((8 : Int32) &&& 31) = 8 := by decide
    rw [e, Int32.toBitVec_shiftRight]
    have e2 : ((8 : Int32).toBitVec.smod 32) = 8#32 := by decide
    rw [e2, BitVec.sshiftRight_eq', BitVec.toNat_sshiftRight_of_msb_false (by rw [BitVec.msb_eq_false_iff_two_mul_lt]; omega)]
    show c.toBitVec.toNat >>> 8 % 256 = _
    rw [Nat.shiftRight_eq_div_pow]
    omega
  unfold pairCh
  apply Int32.toBitVec_inj.mp
  apply BitVec.eq_of_toNat_eq
  have f0 : ((0 : Int32) &&& 31) = 0 := by decide
  have f8 : ((8 : Int32) &&& 31) = 8 := by decide
  rw [f0, f8]
  have g : (((lo8 c &&& 255) <<< (0 : Int32)) ||| ((hi8 c &&& 255) <<< (8 : Int32))).toBitVec.toNat = c.toBitVec.toNat := by
    rw [Int32.toBitVec_or, Int32.toBitVec_shiftLeft, Int32.toBitVec_shiftLeft]
    have s0 : ((0 : Int32).toBitVec.smod 32) = 0#32 := by decide
    have s8 : ((8 : Int32).toBitVec.smod 32) = 8#32 := by decide
    rw [s0, s8, BitVec.toNat_or]
    simp only [BitVec.shiftLeft_eq', BitVec.toNat_shiftLeft, a1, a2]
    show (c.toBitVec.toNat % 256) <<< 0 % 2 ^ 32 ||| (c.toBitVec.toNat / 256) <<< 8 % 2 ^ 32 = _
    rw [Nat.shiftLeft_zero, Nat.mod_eq_of_lt (show c.toBitVec.toNat % 256 < 2 ^ 32 by omega), Nat.mod_eq_of_lt (show (c.toBitVec.toNat / 256) <<< 8 < 2 ^ 32 by rw [Nat.shiftLeft_eq]; omega), Nat.or_comm, ← Nat.shiftLeft_add_eq_or_of_lt (by omega), Nat.shiftLeft_eq]
    omega
  show BitVec.toNat (((((lo8 c &&& 255) <<< (0 : Int32)) ||| ((hi8 c &&& 255) <<< (8 : Int32))).toBitVec.setWidth 16).setWidth 32) = _
  rw [BitVec.toNat_setWidth, BitVec.toNat_setWidth, g]
  omega
end StrChars
namespace StrChars
open Jvm Sem ClassFile Op Lib Jvm.Stand Jvm.Free.XT Jvm.Free.ALB Jvm.Free.JM Jvm.Free
open Jvm.Lib.Cold (StaticIs)
/-- the array's cell V codes the n chars f 0 .. f (n - 1) by the coder cd, as the JDK does: coder 1 just where some char is above 255 -/
def Cod (cd : Int32) (n : Nat) (f : Nat → Int32) (V : Cell) : Prop := (cd = 0 ∧ V.slots.size = n ∧ ∀ j, j < n → V.slots[j]? = some (.int (lo8 (f j))) ∧ ¬ 255 < f j) ∨ (cd = 1 ∧ V.slots.size = 2 * n ∧ (∀ j, j < n → V.slots[2 * j]? = some (.int (lo8 (f j))) ∧ V.slots[2 * j + 1]? = some (.int (hi8 (f j)))) ∧ ∃ j, j < n ∧ 255 < f j)
/-- **x is a String of the n chars f 0 .. f (n - 1)**, Latin-1 or UTF-16; its array at t has the cell V -/
def Txt (x t : Addr) (V : Cell) (cd : Int32) (n : Nat) (f : Nat → Int32) (U : State) : Prop := Exact "java/lang/String" x U ∧ Has x "java/lang/String" "value" "[B" (.ref t) U ∧ Has x "java/lang/String" "coder" "B" (.int cd) U ∧ XT.Arr .byte t V U ∧ Cod cd n f V ∧ ∀ j, j < n → ¬ f j < 0 ∧ ¬ 65535 < f j
theorem Txt.mv {x t : Addr} {V : Cell} {cd : Int32} {n : Nat} {f : Nat → Int32} {U U' : State} (h : Txt x t V cd n f U) (hal : U.vm.Alike U'.vm) (hh : U'.heap = U.heap) : Txt x t V cd n f U' := ⟨h.1.mv hal hh, h.2.1.mv hal hh, h.2.2.1.mv hal hh, h.2.2.2.1.mv hal hh, h.2.2.2.2⟩
end StrChars
namespace StrChars.Road
open Jvm Sem ClassFile Op Lib Jvm.Stand Jvm.Free Jvm.Free.XT
open Jvm.Lib.Cold (StaticIs)
theorem consq {a : Array Value} {s : State} {c : Jvm.Cond} {L : List Jvm.Cond} (h0 : c.before a s = true) (h : ∀ w ∈ L, w.before a s = true) : ∀ w ∈ c :: L, w.before a s = true := fun w hw => (List.mem_cons.mp hw).elim (fun e => e ▸ h0) (h w)
/-- the bytes of the chars cs, low before high -/
def wideBytes : List Int32 → List Value
  | [] => []
  | c :: cs => .int (lo8 c) :: .int (hi8 c) :: wideBytes cs
theorem wide_lo (d : Value) : ∀ (cs : List Int32) (j : Nat), j < cs.length → (wideBytes cs).getD (2 * j) d = .int (lo8 (cs.getD j 0))
  | [], j, h => absurd h (Nat.not_lt_zero j)
  | c :: cs, 0, _ => rfl
  | c :: cs, j + 1, h => by
    have q := wide_lo d cs j (by simpa using h)
    rw [show 2 * (j + 1) = 2 * j + 1 + 1 from by omega]
    simpa [wideBytes] using q
theorem wide_hi (d : Value) : ∀ (cs : List Int32) (j : Nat), j < cs.length → (wideBytes cs).getD (2 * j + 1) d = .int (hi8 (cs.getD j 0))
  | [], j, h => absurd h (Nat.not_lt_zero j)
  | c :: cs, 0, _ => rfl
  | c :: cs, j + 1, h => by
    have q := wide_hi d cs j (by simpa using h)
    rw [show 2 * (j + 1) + 1 = 2 * j + 1 + 1 + 1 from by omega]
    simpa [wideBytes] using q
theorem low_at (d : Value) (cs : List Int32) (j : Nat) (h : j < cs.length) : (cs.map fun c => Value.int (lo8 c)).getD j d = .int (lo8 (cs.getD j 0)) := by
  simp [List.getD_eq_getElem?_getD, h]
/-- an array of N2 bytes vs codes the chars cs by the coder cd -/
def CodA (cs : List Int32) (cd N2 : Int32) (vs : List Value) : Prop := (cd = 0 ∧ N2 = Int32.ofNat cs.length ∧ vs = (cs.map fun c => Value.int (lo8 c)) ∧ ∀ c ∈ cs, ¬ 255 < c) ∨ (cd = 1 ∧ N2 = Int32.ofNat (2 * cs.length) ∧ vs = wideBytes cs ∧ ∃ c ∈ cs, 255 < c)
theorem CodA.cod {cs : List Int32} {cd N2 : Int32} {vs : List Value} {V : Cell} (h : CodA cs cd N2 vs) (hn : 2 * cs.length < 2 ^ 31) (hs : V.slots.size = N2.toNatClampNeg) (hv : RoadKit.Has V vs (.int 0)) : Cod cd cs.length (fun j => cs.getD j 0) V := by
  rcases h with ⟨rfl, rfl, rfl, h⟩ | ⟨rfl, rfl, rfl, c, hc, hw⟩
  · rw [n32 (by omega)] at hs
    exact Or.inl ⟨rfl, hs, fun j hj => ⟨by rw [hv j (by omega), low_at _ _ _ hj], by
      have e : cs.getD j 0 = cs[j] := by simp [List.getD_eq_getElem?_getD, hj]
      show ¬ 255 < cs.getD j 0
      rw [e]; exact h _ (List.getElem_mem _)⟩⟩
  · rw [n32 (by omega)] at hs
    obtain ⟨j, hj, rfl⟩ := List.getElem_of_mem hc
    exact Or.inr ⟨rfl, hs, fun j hj => ⟨by rw [hv _ (by omega), wide_lo _ _ _ hj], by rw [hv _ (by omega), wide_hi _ _ _ hj]⟩, j, hj, by
      have e : cs.getD j 0 = cs[j] := by simp [List.getD_eq_getElem?_getD, hj]
      show 255 < cs.getD j 0
      rw [e]; exact hw⟩
/-- an object of exactly java/lang/String, its two fields found: as the laws ask it -/
theorem strObj {Z U : State} {a0 : Array Value} {kI : Nat} (wi : (Jvm.Cond.instantiable ST kI).before a0 Z = true) (al : Z.vm.Alike U.vm) {x : Addr} {v0 c0 : Value} (E : RoadKit.Exa Z U.heap x ST) (V : RoadKit.Fld Z U.heap x ST "value" "[B" v0) (C : RoadKit.Fld Z U.heap x ST "coder" "B" c0) :
    ∃ (D : Cell) (fV fC : Field), Blank ST x D U ∧ Found ST "value" "[B" fV U ∧ Found ST "coder" "B" fC U ∧ D.slots[fV.slot]? = some v0 ∧ D.slots[fC.slot]? = some c0 ∧ RoadKit.slotOf Z ST "value" "[B" = fV.slot ∧ RoadKit.slotOf Z ST "coder" "B" = fC.slot := by
  obtain ⟨D, cfV, kV, iV, fV, hD, gV, stV, knV, obV, asV, slV⟩ := V
  obtain ⟨D', cfC, kC, iC, fC, hD', gC, stC, -, -, asC, slC⟩ := C
  cases hD.symm.trans hD'
  obtain ⟨D2, kD, e1, e2, e3, e4, e5⟩ := E
  cases hD.symm.trans e1
  obtain ⟨c2, k2, i1, i2, i3, -⟩ := Cond.instantiable_spec wi
  cases e2.symm.trans i1
  cases e3.symm.trans i2
  obtain ⟨kU, u1, u2⟩ := al.2.2 _ _ e3
  exact ⟨D, fV, fC, ⟨hD, ⟨knV, fun q hq => by rw [hq] at obV; cases obV⟩, by rw [al.findClass]; exact e2, kU, u1, by rw [u2]; exact i3, by rw [u2]; exact e5 i3⟩, ⟨SBG.found_only al ⟨cfV, kV, iV, gV⟩, stV⟩, ⟨SBG.found_only al ⟨cfC, kC, iC, gC⟩, stC⟩, slV, slC, by simp [RoadKit.slotOf, gV], by simp [RoadKit.slotOf, gC]⟩
theorem sta_is {Z U : State} (al : Z.vm.Alike U.vm) {C n d : String} {v : Value} (S : RoadKit.Sta Z U.heap C n d v) : StaticIs U C n d v := by
  obtain ⟨cfS, iS, kS, fS, st, cS, t1, t2, t3, t4, t5, t6, t7⟩ := S
  exact StaticIs.there (s := { Z with heap := U.heap }) ⟨cfS, iS, kS, fS, st, cS, t1, t2, t3, t4, t5, (fun q => by rw [q] at t6; cases t6), t7⟩ al rfl
end StrChars.Road
namespace StrChars
open Jvm Sem ClassFile Op Lib Jvm.Stand Jvm.Free.XT Jvm.Free.ALB Jvm.Free.JM Jvm.Free
open Jvm.Lib.Cold (StaticIs)
namespace Emp
def yN : MethodName := ⟨"java/lang/String", "isEmpty", "()Z"⟩
abbrev yB : ByteArray := jdk_42_method_55_code
theorem d0 : decode yB 0 = .ok (.aload_n 0, 1) := by decide +kernel
theorem d1 : decode yB 1 = .ok (.getfield 9, 3) := by decide +kernel
theorem d4 : decode yB 4 = .ok (.arraylength, 1) := by decide +kernel
theorem d5 : decode yB 5 = .ok (.ifCond (.ne) 7, 3) := by decide +kernel
theorem d8 : decode yB 8 = .ok (.iconst 1, 1) := by decide +kernel
theorem d9 : decode yB 9 = .ok (.goto 4, 3) := by decide +kernel
theorem d12 : decode yB 12 = .ok (.iconst 0, 1) := by decide +kernel
theorem d13 : decode yB 13 = .ok (.ireturn, 1) := by decide +kernel
def site : List Cond := [.fieldLink "java/lang/String" 9 "java/lang/String" "value" "[B"]
def tab : Cond := tabOf yN yB 1 (some .boolean) site
def P (x t : Addr) (V : Cell) (cd : Int32) (n : Nat) (f : Nat → Int32) (args : Array Value) (s : State) : Prop := args = #[.ref x] ∧ Txt x t V cd n f s
def E (n : Nat) (r : Option Value) (s u : State) : Prop := XT.PureE (some (.int (if n = 0 then 1 else 0))) r s u
/-- isEmpty() of a String of n chars -/
theorem law (l : Launch) (x t : Addr) (V : Cell) (cd : Int32) (n : Nat) (f : Nat → Int32) : Law l yN 1 0 0 0 yB 1 (some .boolean) site (P x t V cd n f) (E n) [] 0 0 := by
  refine Law.of_walk (plainFor_of_name (by decide +kernel)) (by decide +kernel) (by decide +kernel) (by decide) (fun _ _ h => by rw [h.1]; rfl) (fun _ U U' hal hh h => ⟨h.1, h.2.mv hal hh⟩) (fun r U U' V V' h1 hal h2 h => XT.PureE.mv r U U' V V' h1 hal h2 h) ?_
  intro p e s m args below meth c s₁ X0 hexec hbytes hml hret hlk hnm hown hh0 W hP
  obtain ⟨rfl, hx⟩ := hP
  have v31 := hx.2.2.2.1.2.2.2
  have c1 : Steps p.tables e below (s₁.setTop (entryFrame m #[.ref x] 1)) (s₁.setTop (mkF m 1 #[.val (.ref x)] [.ref x])) := Steps.trans (entry rfl) (by
    show Steps p.tables e below (s₁.setTop (mkF m 0 #[.val (.ref x)] [])) _
    refine XS.aloadN X0.here hexec rfl (hb hbytes d0) rfl rfl ?_
    exact Steps.refl _)
  obtain ⟨T2, X2, q2, st2⟩ := X0.hget hexec hown (wk W (.fieldLink "java/lang/String" 9 "java/lang/String" "value" "[B")) (hx.mv X0.warmed.alike hh0).2.1 (g := (mkF m 1 #[.val (.ref x)] [.ref x])) rfl (rest := []) rfl (hb hbytes d1)
  have hh2 := q2.trans hh0
  have hx2 := hx.mv X2.warmed.alike hh2
  have c3 : Steps p.tables e below (s₁.setTop (entryFrame m #[.ref x] 1)) (T2.setTop (mkF m 5 #[.val (.ref x)] [.int (Int32.ofNat V.slots.size)])) := (c1.trans (st2 _ (Steps.refl _))).trans (by
    refine X2.alen hexec hx2.2.2.2.1 rfl rfl (hb hbytes d4) ?_
    exact Steps.refl _)
  have hz : V.slots.size = 0 ↔ n = 0 := by
    rcases hx.2.2.2.2.1 with ⟨-, q, -⟩ | ⟨-, q, -⟩ <;> omega
  by_cases h0 : n = 0
  · have c4 : Steps p.tables e below (s₁.setTop (entryFrame m #[.ref x] 1)) (T2.setTop (mkF m 13 #[.val (.ref x)] [.int 1])) := c3.trans (by
      refine XS.ifNo X2.here hexec rfl (hb hbytes d5) rfl (i0_ne_f (by rw [hz.mpr h0]; rfl)) ?_
      refine iconstV X2.here hexec rfl 1 (hb hbytes d8) (by decide) ?_
      refine XS.goto X2.here hexec rfl (pc0 := 9) rfl (hb hbytes d9) (by decide) rfl ?_
      exact Steps.refl _)
    exact ⟨T2, some (.int 1), _, _, _, X2, rfl, rfl, rfl, (fun h => by cases h), ⟨by rw [if_pos h0], hh2⟩, fun fs hl => c4.trans (X2.ireturnOut hexec hret rfl (Or.inr (Or.inl rfl)) (hb hbytes d13) hl)⟩
  · have c4 : Steps p.tables e below (s₁.setTop (entryFrame m #[.ref x] 1)) (T2.setTop (mkF m 13 #[.val (.ref x)] [.int 0])) := c3.trans (by
      refine XS.ifYes X2.here hexec rfl (pc0 := 5) rfl (hb hbytes d5) rfl (i0_ne_t (nz32 v31 (by omega))) (by decide) rfl ?_
      refine iconstV X2.here hexec rfl 0 (hb hbytes d12) (by decide) ?_
      exact Steps.refl _)
    exact ⟨T2, some (.int 0), _, _, _, X2, rfl, rfl, rfl, (fun h => by cases h), ⟨by rw [if_neg h0], hh2⟩, fun fs hl => c4.trans (X2.ireturnOut hexec hret rfl (Or.inr (Or.inl rfl)) (hb hbytes d13) hl)⟩
theorem pays {l : Launch} {R : Room} {p : Program} {e : Env} {below : List Frame} {s : State} {sargs : Array Value} {len W : Nat} (x t : Addr) (V : Cell) (cd : Int32) (n : Nat) (f : Nat → Int32) (htab : tab.before sargs s = true) (hfr : 1 ≤ R.frames) (hlo : W + 12 ≤ R.locals) :
    Back l R p e below s sargs yN len W (fun A₁ a₁ => A₁.cells + 0 ≤ R.cells ∧ A₁.slots + 0 ≤ R.slots ∧ P x t V cd n f a₁ A₁.U) (fun A₁ _ v₁ B₁ => E n v₁ A₁.U B₁.U ∧ B₁.locs = A₁.locs ++ [] ∧ B₁.cells = A₁.cells + 0 ∧ B₁.slots = A₁.slots + 0) :=
  (law l x t V cd n f).pays htab hfr (by omega)
end Emp
/-- what place i of a byte[]'s cell holds -/
def yv (A : Cell) (i : Nat) : Int32 := match A.slots[i]? with | some (.int x) => x | _ => 0
theorem yv_get {a : Addr} {A : Cell} {U : State} (h : XT.Arr .byte a A U) (ht : Typed .byte A) {i : Nat} (hi : i < A.slots.size) : A.slots[i]? = some (.int (yv A i)) := by
  have e := Array.getElem?_eq_getElem hi
  have f := ht i _ e
  unfold yv; rw [e]
  generalize A.slots[i] = v at f
  cases v <;> simp [fits] at f ⊢
/-- the two arrays are equal, place for place -/
def EqC (A B : Cell) : Prop := A.slots.size = B.slots.size ∧ ∀ i, i < A.slots.size → yv A i = yv B i
/-- a boolean that says whether p -/
def Says01 (q : Prop) (r : Option Value) (s u : State) : Prop := ∃ v : Int32, r = some (.int v) ∧ u.heap = s.heap ∧ ((v = 1 ∧ q) ∨ (v = 0 ∧ ¬ q))
theorem Says01.mv {q : Prop} : ∀ r (U U' V V' : State), U'.heap = U.heap → V.vm.Alike V'.vm → V'.heap = V.heap → Says01 q r U V → Says01 q r U' V' :=
  fun r U U' V V' h1 _ h2 ⟨v, a, b, c⟩ => ⟨v, a, by rw [h1, h2]; exact b, c⟩
namespace LEq
def yN : MethodName := ⟨"java/lang/StringLatin1", "equals", "([B[B)Z"⟩
abbrev yB : ByteArray := jdk_43_method_13_code
theorem d0 : decode yB 0 = .ok (.aload_n 0, 1) := by decide +kernel
theorem d1 : decode yB 1 = .ok (.arraylength, 1) := by decide +kernel
theorem d2 : decode yB 2 = .ok (.aload_n 1, 1) := by decide +kernel
theorem d3 : decode yB 3 = .ok (.arraylength, 1) := by decide +kernel
theorem d4 : decode yB 4 = .ok (.if_icmp (.ne) 30, 3) := by decide +kernel
theorem d7 : decode yB 7 = .ok (.iconst 0, 1) := by decide +kernel
theorem d8 : decode yB 8 = .ok (.istore_n 2, 1) := by decide +kernel
theorem d9 : decode yB 9 = .ok (.iload_n 2, 1) := by decide +kernel
theorem d10 : decode yB 10 = .ok (.aload_n 0, 1) := by decide +kernel
theorem d11 : decode yB 11 = .ok (.arraylength, 1) := by decide +kernel
theorem d12 : decode yB 12 = .ok (.if_icmp (.ge) 20, 3) := by decide +kernel
theorem d15 : decode yB 15 = .ok (.aload_n 0, 1) := by decide +kernel
theorem d16 : decode yB 16 = .ok (.iload_n 2, 1) := by decide +kernel
theorem d17 : decode yB 17 = .ok (.baload, 1) := by decide +kernel
theorem d18 : decode yB 18 = .ok (.aload_n 1, 1) := by decide +kernel
theorem d19 : decode yB 19 = .ok (.iload_n 2, 1) := by decide +kernel
theorem d20 : decode yB 20 = .ok (.baload, 1) := by decide +kernel
theorem d21 : decode yB 21 = .ok (.if_icmp (.eq) 5, 3) := by decide +kernel
theorem d24 : decode yB 24 = .ok (.iconst 0, 1) := by decide +kernel
theorem d25 : decode yB 25 = .ok (.ireturn, 1) := by decide +kernel
theorem d26 : decode yB 26 = .ok (.iinc 2 1, 3) := by decide +kernel
theorem d29 : decode yB 29 = .ok (.goto (-20), 3) := by decide +kernel
theorem d32 : decode yB 32 = .ok (.iconst 1, 1) := by decide +kernel
theorem d33 : decode yB 33 = .ok (.ireturn, 1) := by decide +kernel
theorem d34 : decode yB 34 = .ok (.iconst 0, 1) := by decide +kernel
theorem d35 : decode yB 35 = .ok (.ireturn, 1) := by decide +kernel
def site : List Cond := []
def tab : Cond := tabOf yN yB 3 (some .boolean) site
def P (a : Addr) (A : Cell) (b : Addr) (B : Cell) (args : Array Value) (s : State) : Prop := args = #[.ref a, .ref b] ∧ XT.Arr .byte a A s ∧ Typed .byte A ∧ XT.Arr .byte b B s ∧ Typed .byte B
/-- whether two byte[] are equal, place for place -/
theorem law (l : Launch) (a : Addr) (A : Cell) (b : Addr) (B : Cell) : Law l yN 2 2 0 0 yB 3 (some .boolean) site (P a A b B) (Says01 (EqC A B)) [] 0 0 := by
  refine Law.of_walk (plainFor_of_name (by decide +kernel)) (by decide +kernel) (by decide +kernel) (by decide) (fun _ _ h => by rw [h.1]; rfl) (fun _ U U' hal hh h => ⟨h.1, h.2.1.mv hal hh, h.2.2.1, h.2.2.2.1.mv hal hh, h.2.2.2.2⟩) (fun r U U' V V' h1 hal h2 h => Says01.mv r U U' V V' h1 hal h2 h) ?_
  intro p e s m args below meth c s₁ X0 hexec hbytes hml hret hlk hnm hown hh0 W hP
  obtain ⟨rfl, hA, tA, hB, tB⟩ := hP
  have a31 := hA.2.2.2
  have b31 := hB.2.2.2
  have hA0 := hA.mv X0.warmed.alike hh0
  have hB0 := hB.mv X0.warmed.alike hh0
  have c1 : Steps p.tables e below (s₁.setTop (entryFrame m #[.ref a, .ref b] 3)) (s₁.setTop (mkF m 0 #[.val (.ref a), .val (.ref b), .unset] [])) := entry rfl
  have c2 : Steps p.tables e below (s₁.setTop (entryFrame m #[.ref a, .ref b] 3)) (s₁.setTop (mkF m 4 #[.val (.ref a), .val (.ref b), .unset] [.int (Int32.ofNat B.slots.size), .int (Int32.ofNat A.slots.size)])) := c1.trans (by
    refine XS.aloadN X0.here hexec rfl (hb hbytes d0) rfl rfl ?_
    refine X0.alen hexec hA0 rfl rfl (hb hbytes d1) ?_
    refine XS.aloadN X0.here hexec rfl (hb hbytes d2) rfl rfl ?_
    refine X0.alen hexec hB0 rfl rfl (hb hbytes d3) ?_
    exact Steps.refl _)
  by_cases hs : A.slots.size = B.slots.size
  · have c3 : Steps p.tables e below (s₁.setTop (entryFrame m #[.ref a, .ref b] 3)) (s₁.setTop (mkF m 9 #[.val (.ref a), .val (.ref b), .val (.int 0)] [])) := c2.trans (by
      refine XS.icmpNo X0.here hexec rfl (hb hbytes d4) rfl (ii_ne_f (by rw [hs])) ?_
      refine iconstV X0.here hexec rfl 0 (hb hbytes d7) (by decide) ?_
      refine XS.istoreN X0.here hexec rfl (hb hbytes d8) rfl rfl ?_
      exact Steps.refl _)
    have loop : ∀ (r i : Nat), i + r = A.slots.size → (∀ j, j < i → yv A j = yv B j) → Steps p.tables e below (s₁.setTop (entryFrame m #[.ref a, .ref b] 3)) (s₁.setTop (mkF m 9 #[.val (.ref a), .val (.ref b), .val (.int (Int32.ofNat i))] [])) → ∃ (pc : Nat) (Ls : Array Slot) (v : Int32), (pc = 25 ∨ pc = 33) ∧ ((v = 1 ∧ EqC A B) ∨ (v = 0 ∧ ¬ EqC A B)) ∧ Steps p.tables e below (s₁.setTop (entryFrame m #[.ref a, .ref b] 3)) (s₁.setTop (mkF m pc Ls [.int v])) := by
      intro r
      induction r with
      | zero =>
        intro i hi he cl
        exact ⟨33, _, 1, Or.inr rfl, Or.inl ⟨rfl, hs, fun j hj => he j (by omega)⟩, cl.trans (by
          refine XS.iloadN X0.here hexec rfl (hb hbytes d9) rfl ?_
          refine XS.aloadN X0.here hexec rfl (hb hbytes d10) rfl rfl ?_
          refine X0.alen hexec hA0 rfl rfl (hb hbytes d11) ?_
          refine XS.icmpYes X0.here hexec rfl (pc0 := 12) rfl (hb hbytes d12) rfl (ii_ge_t (nlt32 (by omega) (by omega))) (by decide) rfl ?_
          refine iconstV X0.here hexec rfl 1 (hb hbytes d32) (by decide) ?_
          exact Steps.refl _)⟩
      | succ r ih =>
        intro i hi he cl
        have c4 : Steps p.tables e below (s₁.setTop (entryFrame m #[.ref a, .ref b] 3)) (s₁.setTop (mkF m 21 #[.val (.ref a), .val (.ref b), .val (.int (Int32.ofNat i))] [.int (yv B i), .int (yv A i)])) := cl.trans (by
          refine XS.iloadN X0.here hexec rfl (hb hbytes d9) rfl ?_
          refine XS.aloadN X0.here hexec rfl (hb hbytes d10) rfl rfl ?_
          refine X0.alen hexec hA0 rfl rfl (hb hbytes d11) ?_
          refine XS.icmpNo X0.here hexec rfl (hb hbytes d12) rfl (ii_ge_f (lt32 (by omega) (by omega))) ?_
          refine XS.aloadN X0.here hexec rfl (hb hbytes d15) rfl rfl ?_
          refine XS.iloadN X0.here hexec rfl (hb hbytes d16) rfl ?_
          refine X0.aget hexec hA0 rfl (yv_get hA tA (i := i) (by omega)) rfl rfl (hb hbytes d17) ?_
          refine XS.aloadN X0.here hexec rfl (hb hbytes d18) rfl rfl ?_
          refine XS.iloadN X0.here hexec rfl (hb hbytes d19) rfl ?_
          refine X0.aget hexec hB0 rfl (yv_get hB tB (i := i) (by omega)) rfl rfl (hb hbytes d20) ?_
          exact Steps.refl _)
        by_cases hv : yv A i = yv B i
        · have c5 : Steps p.tables e below (s₁.setTop (entryFrame m #[.ref a, .ref b] 3)) (s₁.setTop (mkF m 9 #[.val (.ref a), .val (.ref b), .val (.int (Int32.ofNat i + 1))] [])) := c4.trans (by
            refine XS.icmpYes X0.here hexec rfl (pc0 := 21) rfl (hb hbytes d21) rfl (ii_eq_t hv) (by decide) rfl ?_
            refine iincV X0.here hexec rfl 1 (hb hbytes d26) (by decide) rfl rfl ?_
            refine XS.goto X0.here hexec rfl (pc0 := 29) rfl (hb hbytes d29) (by decide) rfl ?_
            exact Steps.refl _)
          rw [succ32] at c5
          exact ih (i + 1) (by omega) (fun j hj => by
            by_cases e : j = i
            · rw [e]; exact hv
            · exact he j (by omega)) c5
        · exact ⟨25, _, 0, Or.inl rfl, Or.inr ⟨rfl, fun q => hv (q.2 i (by omega))⟩, c4.trans (by
            refine XS.icmpNo X0.here hexec rfl (hb hbytes d21) rfl (ii_eq_f hv) ?_
            refine iconstV X0.here hexec rfl 0 (hb hbytes d24) (by decide) ?_
            exact Steps.refl _)⟩
    obtain ⟨pc, Ls, v, hpc, hv, cz⟩ := loop A.slots.size 0 (by omega) (fun j hj => absurd hj (Nat.not_lt_zero j)) c3
    have nv : narrow .boolean (.int v) = .int v := by rcases hv with ⟨rfl, -⟩ | ⟨rfl, -⟩ <;> rfl
    rcases hpc with rfl | rfl
    · exact ⟨s₁, some (.int v), _, _, _, X0, rfl, rfl, rfl, (fun h => by cases h), ⟨v, rfl, hh0, hv⟩, fun fs hl => cz.trans (X0.ireturnOut hexec hret nv (Or.inr (Or.inl rfl)) (hb hbytes d25) hl)⟩
    · exact ⟨s₁, some (.int v), _, _, _, X0, rfl, rfl, rfl, (fun h => by cases h), ⟨v, rfl, hh0, hv⟩, fun fs hl => cz.trans (X0.ireturnOut hexec hret nv (Or.inr (Or.inl rfl)) (hb hbytes d33) hl)⟩
  · have c3 : Steps p.tables e below (s₁.setTop (entryFrame m #[.ref a, .ref b] 3)) (s₁.setTop (mkF m 35 #[.val (.ref a), .val (.ref b), .unset] [.int 0])) := c2.trans (by
      refine XS.icmpYes X0.here hexec rfl (pc0 := 4) rfl (hb hbytes d4) rfl (ii_ne_t (ne32 a31 b31 hs)) (by decide) rfl ?_
      refine iconstV X0.here hexec rfl 0 (hb hbytes d34) (by decide) ?_
      exact Steps.refl _)
    exact ⟨s₁, some (.int 0), _, _, _, X0, rfl, rfl, rfl, (fun h => by cases h), ⟨0, rfl, hh0, Or.inr ⟨rfl, fun q => hs q.1⟩⟩, fun fs hl => c3.trans (X0.ireturnOut hexec hret rfl (Or.inr (Or.inl rfl)) (hb hbytes d35) hl)⟩
end LEq
theorem Cod.ty {cd : Int32} {n : Nat} {f : Nat → Int32} {V : Cell} (h : Cod cd n f V) : Typed .byte V := fun i v hv => by
  have hi : i < V.slots.size := (Array.getElem?_eq_some_iff.mp hv).1
  rcases h with ⟨-, k1, k2⟩ | ⟨-, k1, k2, -⟩
  · rw [(k2 i (by omega)).1] at hv; cases hv; exact fits_lo8 _
  · rcases Nat.mod_two_eq_zero_or_one i with e | e
    · obtain ⟨j, rfl⟩ : ∃ j, i = 2 * j := ⟨i / 2, by omega⟩
      rw [(k2 j (by omega)).1] at hv; cases hv; exact fits_lo8 _
    · obtain ⟨j, rfl⟩ : ∃ j, i = 2 * j + 1 := ⟨i / 2, by omega⟩
      rw [(k2 j (by omega)).2] at hv; cases hv; exact fits_lo8 _
/-- the same text -/
def SameT (n : Nat) (f : Nat → Int32) (k : Nat) (g : Nat → Int32) : Prop := n = k ∧ ∀ j, j < n → f j = g j
theorem lo8_inj {x y : Int32} (h0 : ¬ x < 0) (h1 : ¬ 255 < x) (k0 : ¬ y < 0) (k1 : ¬ 255 < y) (h : lo8 x = lo8 y) : x = y := by
  rw [← lo8_mask h0 h1, ← lo8_mask k0 k1, h]
/-- arrays coded by one coder are equal just where the texts are -/
theorem Cod.eqv {cd : Int32} {n k : Nat} {f g : Nat → Int32} {V V' : Cell} (h : Cod cd n f V) (h' : Cod cd k g V') (hf : ∀ j, j < n → ¬ f j < 0 ∧ ¬ 65535 < f j) (hg : ∀ j, j < k → ¬ g j < 0 ∧ ¬ 65535 < g j) : EqC V V' ↔ SameT n f k g := by
  have yvv : ∀ {W : Cell} {i : Nat} {x : Int32}, W.slots[i]? = some (.int x) → yv W i = x := fun q => by unfold yv; rw [q]
  rcases h with ⟨rfl, k1, k2⟩ | ⟨rfl, k1, k2, -⟩
  · rcases h' with ⟨-, m1, m2⟩ | ⟨e, -⟩
    · constructor
      · rintro ⟨e1, e2⟩
        refine ⟨by omega, fun j hj => ?_⟩
        have q := e2 j (by omega)
        rw [yvv (k2 j hj).1, yvv (m2 j (by omega)).1] at q
        exact lo8_inj (hf j hj).1 (k2 j hj).2 (hg j (by omega)).1 (m2 j (by omega)).2 q
      · rintro ⟨rfl, e2⟩
        refine ⟨by omega, fun j hj => ?_⟩
        rw [yvv (k2 j (by omega)).1, yvv (m2 j (by omega)).1, e2 j (by omega)]
    · exact absurd e (by decide)
  · rcases h' with ⟨e, -⟩ | ⟨-, m1, m2, -⟩
    · exact absurd e (by decide)
    · constructor
      · rintro ⟨e1, e2⟩
        refine ⟨by omega, fun j hj => ?_⟩
        have q1 := e2 (2 * j) (by omega)
        have q2 := e2 (2 * j + 1) (by omega)
        rw [yvv (k2 j hj).1, yvv (m2 j (by omega)).1] at q1
        rw [yvv (k2 j hj).2, yvv (m2 j (by omega)).2] at q2
        rw [← pair_says (hf j hj).1 (hf j hj).2, ← pair_says (hg j (by omega)).1 (hg j (by omega)).2, q1, q2]
      · rintro ⟨rfl, e2⟩
        refine ⟨by omega, fun i hi => ?_⟩
        rcases Nat.mod_two_eq_zero_or_one i with e | e
        · obtain ⟨j, rfl⟩ : ∃ j, i = 2 * j := ⟨i / 2, by omega⟩
          rw [yvv (k2 j (by omega)).1, yvv (m2 j (by omega)).1, e2 j (by omega)]
        · obtain ⟨j, rfl⟩ : ∃ j, i = 2 * j + 1 := ⟨i / 2, by omega⟩
          rw [yvv (k2 j (by omega)).2, yvv (m2 j (by omega)).2, e2 j (by omega)]
/-- two codings differ: so do the texts -/
theorem Cod.dif {cd cd' : Int32} {n k : Nat} {f g : Nat → Int32} {V V' : Cell} (h : Cod cd n f V) (h' : Cod cd' k g V') (hne : ¬ cd = cd') : ¬ SameT n f k g := by
  rintro ⟨rfl, e⟩
  rcases h with ⟨rfl, -, k2⟩ | ⟨rfl, -, -, j, hj, hw⟩
  · rcases h' with ⟨rfl, -⟩ | ⟨-, -, -, j, hj, hw⟩
    · exact hne rfl
    · exact (k2 j hj).2 (by rw [e j hj]; exact hw)
  · rcases h' with ⟨-, -, m2⟩ | ⟨rfl, -⟩
    · exact (m2 j hj).2 (by rw [← e j hj]; exact hw)
    · exact hne rfl
/-- an object of exactly C is an instance of C -/
theorem cinst {p : Program} {l : Launch} {e : Env} {R : Room} {s : State} {m : MethodId} {args : Array Value} {below : List Frame} {meth : Method} {c : Code} {T : State} {locs : List Loc} {cells slots : Nat} (X : Stand p l e R s m args below meth c T locs cells slots) (hexec : p.tables.exec = Jvm.exec) {own C : String} {index : Nat} (hown : s.vm.findClass own = some m.cls) (hlink : (Cond.classLink own index C).before args s = true) {a : Addr} (hE : Exact C a T)
    {g : JFrame} (hg : g.method = m) {rest : List Value} (hstack : g.stack = .ref a :: rest) (hdg : decode c.code g.pc = .ok (.instanceof index, 3)) :
    ∃ T', Stand p l e R s m args below meth c T' locs cells slots ∧ T'.heap = T.heap ∧ ∀ target, Steps p.tables e below (T'.setTop { g with pc := g.pc + 3, stack := .int 1 :: rest }) target → Steps p.tables e below (T.setTop g) target := by
  obtain ⟨cB, h1, D, h2, h3, h4⟩ := hE
  have h1' : s.vm.findClass C = some cB := by rw [← X.warmed.alike.findClass]; exact h1
  obtain ⟨vm', X', st⟩ := X.instanceofYes hexec hown hlink h2 h4 h1' (by rw [h3]; exact Jvm.Free.SB.assignable_self _ _) hg hstack hdg
  exact ⟨_, X', rfl, st⟩
theorem cself {p : Program} {l : Launch} {e : Env} {R : Room} {s : State} {m : MethodId} {args : Array Value} {below : List Frame} {meth : Method} {c : Code} {T : State} {locs : List Loc} {cells slots : Nat} (X : Stand p l e R s m args below meth c T locs cells slots) (hexec : p.tables.exec = Jvm.exec) {own C : String} {index : Nat} (hown : s.vm.findClass own = some m.cls) (hlink : (Cond.classLink own index C).before args s = true) {a : Addr} (hE : Exact C a T)
    {g : JFrame} (hg : g.method = m) {rest : List Value} (hstack : g.stack = .ref a :: rest) (hdg : decode c.code g.pc = .ok (.checkcast index, 3)) :
    ∃ T', Stand p l e R s m args below meth c T' locs cells slots ∧ T'.heap = T.heap ∧ ∀ target, Steps p.tables e below (T'.setTop { g with pc := g.pc + 3, stack := .ref a :: rest }) target → Steps p.tables e below (T.setTop g) target := by
  obtain ⟨cB, h1, D, h2, h3, h4⟩ := hE
  have h1' : s.vm.findClass C = some cB := by rw [← X.warmed.alike.findClass]; exact h1
  obtain ⟨vm', X', st⟩ := X.checkcastYes hexec hown hlink h2 h4 h1' (by rw [h3]; exact Jvm.Free.SB.assignable_self _ _) hg hstack hdg
  exact ⟨_, X', rfl, fun t h => st t (by rw [← hstack] at h; exact h)⟩
namespace SEq
def yN : MethodName := ⟨"java/lang/String", "equals", "(Ljava/lang/Object;)Z"⟩
abbrev yB : ByteArray := jdk_42_method_66_code
theorem d0 : decode yB 0 = .ok (.aload_n 0, 1) := by decide +kernel
theorem d1 : decode yB 1 = .ok (.aload_n 1, 1) := by decide +kernel
theorem d2 : decode yB 2 = .ok (.if_acmp (.ne) 5, 3) := by decide +kernel
theorem d5 : decode yB 5 = .ok (.iconst 1, 1) := by decide +kernel
theorem d6 : decode yB 6 = .ok (.ireturn, 1) := by decide +kernel
theorem d7 : decode yB 7 = .ok (.aload_n 1, 1) := by decide +kernel
theorem d8 : decode yB 8 = .ok (.instanceof 10, 3) := by decide +kernel
theorem d11 : decode yB 11 = .ok (.ifCond (.eq) 43, 3) := by decide +kernel
theorem d14 : decode yB 14 = .ok (.aload_n 1, 1) := by decide +kernel
theorem d15 : decode yB 15 = .ok (.checkcast 10, 3) := by decide +kernel
theorem d18 : decode yB 18 = .ok (.astore_n 2, 1) := by decide +kernel
theorem d19 : decode yB 19 = .ok (.getstatic 38, 3) := by decide +kernel
theorem d22 : decode yB 22 = .ok (.ifCond (.eq) 14, 3) := by decide +kernel
theorem d25 : decode yB 25 = .ok (.aload_n 0, 1) := by decide +kernel
theorem d26 : decode yB 26 = .ok (.getfield 15, 3) := by decide +kernel
theorem d29 : decode yB 29 = .ok (.aload_n 2, 1) := by decide +kernel
theorem d30 : decode yB 30 = .ok (.getfield 15, 3) := by decide +kernel
theorem d33 : decode yB 33 = .ok (.if_icmp (.ne) 21, 3) := by decide +kernel
theorem d36 : decode yB 36 = .ok (.aload_n 0, 1) := by decide +kernel
theorem d37 : decode yB 37 = .ok (.getfield 9, 3) := by decide +kernel
theorem d40 : decode yB 40 = .ok (.aload_n 2, 1) := by decide +kernel
theorem d41 : decode yB 41 = .ok (.getfield 9, 3) := by decide +kernel
theorem d44 : decode yB 44 = .ok (.invokestatic 541, 3) := by decide +kernel
theorem d47 : decode yB 47 = .ok (.ifCond (.eq) 7, 3) := by decide +kernel
theorem d50 : decode yB 50 = .ok (.iconst 1, 1) := by decide +kernel
theorem d51 : decode yB 51 = .ok (.goto 4, 3) := by decide +kernel
theorem d54 : decode yB 54 = .ok (.iconst 0, 1) := by decide +kernel
theorem d55 : decode yB 55 = .ok (.ireturn, 1) := by decide +kernel
def site : List Cond := [.classLink "java/lang/String" 10 "java/lang/String", .fieldLink "java/lang/String" 38 "java/lang/String" "COMPACT_STRINGS" "Z", .fieldLink "java/lang/String" 15 "java/lang/String" "coder" "B", .fieldLink "java/lang/String" 9 "java/lang/String" "value" "[B", LEq.tab] ++ staticW "java/lang/String" 541 LEq.yN
def tab : Cond := tabOf yN yB 3 (some .boolean) site
def P (x t : Addr) (V : Cell) (cd : Int32) (n : Nat) (f : Nat → Int32) (y t' : Addr) (V' : Cell) (cd' : Int32) (k : Nat) (g : Nat → Int32) (z : Int32) (args : Array Value) (s : State) : Prop := args = #[.ref x, .ref y] ∧ Txt x t V cd n f s ∧ Txt y t' V' cd' k g s ∧ StaticIs s "java/lang/String" "COMPACT_STRINGS" "Z" (.int z) ∧ ¬ z = 0
/-- equals(Object) of two Strings: whether the texts are the same -/
theorem law (l : Launch) (x t : Addr) (V : Cell) (cd : Int32) (n : Nat) (f : Nat → Int32) (y t' : Addr) (V' : Cell) (cd' : Int32) (k : Nat) (g : Nat → Int32) (z : Int32) : Law l yN 2 1 1 14 yB 3 (some .boolean) site (P x t V cd n f y t' V' cd' k g z) (Says01 (SameT n f k g)) [] 0 0 := by
  refine Law.of_walk (plainFor_of_name (by decide +kernel)) (by decide +kernel) (by decide +kernel) (by decide) (fun _ _ h => by rw [h.1]; rfl) (fun _ U U' hal hh h => ⟨h.1, h.2.1.mv hal hh, h.2.2.1.mv hal hh, h.2.2.2.1.there hal hh, h.2.2.2.2⟩) (fun r U U' V V' h1 hal h2 h => Says01.mv r U U' V V' h1 hal h2 h) ?_
  intro p e s m args below meth c s₁ X0 hexec hbytes hml hret hlk hnm hown hh0 W hP
  obtain ⟨rfl, hx, hy, s1, hz⟩ := hP
  have c1 : Steps p.tables e below (s₁.setTop (entryFrame m #[.ref x, .ref y] 3)) (s₁.setTop (mkF m 2 #[.val (.ref x), .val (.ref y), .unset] [.ref y, .ref x])) := Steps.trans (entry rfl) (by
    show Steps p.tables e below (s₁.setTop (mkF m 0 #[.val (.ref x), .val (.ref y), .unset] [])) _
    refine XS.aloadN X0.here hexec rfl (hb hbytes d0) rfl rfl ?_
    refine XS.aloadN X0.here hexec rfl (hb hbytes d1) rfl rfl ?_
    exact Steps.refl _)
  by_cases hxy : x = y
  · have c2 : Steps p.tables e below (s₁.setTop (entryFrame m #[.ref x, .ref y] 3)) (s₁.setTop (mkF m 6 #[.val (.ref x), .val (.ref y), .unset] [.int 1])) := c1.trans (by
      refine acmpNo X0.here hexec rfl (hb hbytes d2) rfl rfl rfl (by simp [acmp, hxy]) ?_
      refine iconstV X0.here hexec rfl 1 (hb hbytes d5) (by decide) ?_
      exact Steps.refl _)
    subst hxy
    have ec : cd = cd' := by
      obtain ⟨D, fd, a1, a2, a3⟩ := hx.2.2.1
      obtain ⟨D', fd', b1, b2, b3⟩ := hy.2.2.1
      cases a1.symm.trans b1
      obtain ⟨q1, q2, q3, q4⟩ := a2.1
      obtain ⟨r1, r2, r3, r4⟩ := b2.1
      cases q4.symm.trans r4
      cases a3.symm.trans b3; rfl
    have et : t = t' := by
      obtain ⟨D, fd, a1, a2, a3⟩ := hx.2.1
      obtain ⟨D', fd', b1, b2, b3⟩ := hy.2.1
      cases a1.symm.trans b1
      obtain ⟨q1, q2, q3, q4⟩ := a2.1
      obtain ⟨r1, r2, r3, r4⟩ := b2.1
      cases q4.symm.trans r4
      cases a3.symm.trans b3; rfl
    subst ec et
    have ev : V = V' := by cases hx.2.2.2.1.1.symm.trans hy.2.2.2.1.1; rfl
    subst ev
    have hs : SameT n f k g := (Cod.eqv hx.2.2.2.2.1 hy.2.2.2.2.1 hx.2.2.2.2.2 hy.2.2.2.2.2).mp ⟨rfl, fun _ _ => rfl⟩
    exact ⟨s₁, some (.int 1), _, _, _, X0, rfl, rfl, rfl, (fun h => by cases h), ⟨1, rfl, hh0, Or.inl ⟨rfl, hs⟩⟩, fun fs hl => c2.trans (X0.ireturnOut hexec hret rfl (Or.inr (Or.inl rfl)) (hb hbytes d6) hl)⟩
  · have c2 : Steps p.tables e below (s₁.setTop (entryFrame m #[.ref x, .ref y] 3)) (s₁.setTop (mkF m 8 #[.val (.ref x), .val (.ref y), .unset] [.ref y])) := c1.trans (by
      refine acmpYes X0.here hexec rfl (pc0 := 2) rfl (hb hbytes d2) rfl rfl rfl (by simp [acmp, hxy]) (by decide) rfl ?_
      refine XS.aloadN X0.here hexec rfl (hb hbytes d7) rfl rfl ?_
      exact Steps.refl _)
    obtain ⟨T3, X3, q3, st3⟩ := cinst X0 hexec hown (wk W (.classLink "java/lang/String" 10 "java/lang/String")) (hy.mv X0.warmed.alike hh0).1 (g := (mkF m 8 #[.val (.ref x), .val (.ref y), .unset] [.ref y])) rfl (rest := []) rfl (hb hbytes d8)
    have hh3 := q3.trans hh0
    have c4 : Steps p.tables e below (s₁.setTop (entryFrame m #[.ref x, .ref y] 3)) (T3.setTop (mkF m 15 #[.val (.ref x), .val (.ref y), .unset] [.ref y])) := (c2.trans (st3 _ (Steps.refl _))).trans (by
      refine XS.ifNo X3.here hexec rfl (hb hbytes d11) rfl (i0_eq_f (by decide)) ?_
      refine XS.aloadN X3.here hexec rfl (hb hbytes d14) rfl rfl ?_
      exact Steps.refl _)
    obtain ⟨T5, X5, q5, st5⟩ := cself X3 hexec hown (wk W (.classLink "java/lang/String" 10 "java/lang/String")) (hy.mv X3.warmed.alike hh3).1 (g := (mkF m 15 #[.val (.ref x), .val (.ref y), .unset] [.ref y])) rfl (rest := []) rfl (hb hbytes d15)
    have hh5 := q5.trans hh3
    have c6 : Steps p.tables e below (s₁.setTop (entryFrame m #[.ref x, .ref y] 3)) (T5.setTop (mkF m 19 #[.val (.ref x), .val (.ref y), .val (.ref y)] [])) := (c4.trans (st5 _ (Steps.refl _))).trans (by
      refine XS.astoreN X5.here hexec rfl (hb hbytes d18) rfl rfl rfl ?_
      exact Steps.refl _)
    obtain ⟨T7, X7, q7, st7⟩ := X5.sget hexec hown (wk W (.fieldLink "java/lang/String" 38 "java/lang/String" "COMPACT_STRINGS" "Z")) s1 (fun _ _ h => by rw [hh5]; exact h) (g := (mkF m 19 #[.val (.ref x), .val (.ref y), .val (.ref y)] [])) rfl (hb hbytes d19)
    have hh7 := q7.trans hh5
    have c8 : Steps p.tables e below (s₁.setTop (entryFrame m #[.ref x, .ref y] 3)) (T7.setTop (mkF m 26 #[.val (.ref x), .val (.ref y), .val (.ref y)] [.ref x])) := (c6.trans (st7 _ (Steps.refl _))).trans (by
      refine XS.ifNo X7.here hexec rfl (hb hbytes d22) rfl (i0_eq_f hz) ?_
      refine XS.aloadN X7.here hexec rfl (hb hbytes d25) rfl rfl ?_
      exact Steps.refl _)
    obtain ⟨T9, X9, q9, st9⟩ := X7.hget hexec hown (wk W (.fieldLink "java/lang/String" 15 "java/lang/String" "coder" "B")) (hx.mv X7.warmed.alike hh7).2.2.1 (g := (mkF m 26 #[.val (.ref x), .val (.ref y), .val (.ref y)] [.ref x])) rfl (rest := []) rfl (hb hbytes d26)
    have hh9 := q9.trans hh7
    have c10 : Steps p.tables e below (s₁.setTop (entryFrame m #[.ref x, .ref y] 3)) (T9.setTop (mkF m 30 #[.val (.ref x), .val (.ref y), .val (.ref y)] [.ref y, .int cd])) := (c8.trans (st9 _ (Steps.refl _))).trans (by
      refine XS.aloadN X9.here hexec rfl (hb hbytes d29) rfl rfl ?_
      exact Steps.refl _)
    obtain ⟨T11, X11, q11, st11⟩ := X9.hget hexec hown (wk W (.fieldLink "java/lang/String" 15 "java/lang/String" "coder" "B")) (hy.mv X9.warmed.alike hh9).2.2.1 (g := (mkF m 30 #[.val (.ref x), .val (.ref y), .val (.ref y)] [.ref y, .int cd])) rfl (rest := [.int cd]) rfl (hb hbytes d30)
    have hh11 := q11.trans hh9
    have c12 : Steps p.tables e below (s₁.setTop (entryFrame m #[.ref x, .ref y] 3)) (T11.setTop (mkF m 33 #[.val (.ref x), .val (.ref y), .val (.ref y)] [.int cd', .int cd])) := c10.trans (st11 _ (Steps.refl _))
    by_cases hcd : cd = cd'
    · subst hcd
      have c13 : Steps p.tables e below (s₁.setTop (entryFrame m #[.ref x, .ref y] 3)) (T11.setTop (mkF m 37 #[.val (.ref x), .val (.ref y), .val (.ref y)] [.ref x])) := c12.trans (by
        refine XS.icmpNo X11.here hexec rfl (hb hbytes d33) rfl (ii_ne_f rfl) ?_
        refine XS.aloadN X11.here hexec rfl (hb hbytes d36) rfl rfl ?_
        exact Steps.refl _)
      obtain ⟨T14, X14, q14, st14⟩ := X11.hget hexec hown (wk W (.fieldLink "java/lang/String" 9 "java/lang/String" "value" "[B")) (hx.mv X11.warmed.alike hh11).2.1 (g := (mkF m 37 #[.val (.ref x), .val (.ref y), .val (.ref y)] [.ref x])) rfl (rest := []) rfl (hb hbytes d37)
      have hh14 := q14.trans hh11
      have c15 : Steps p.tables e below (s₁.setTop (entryFrame m #[.ref x, .ref y] 3)) (T14.setTop (mkF m 41 #[.val (.ref x), .val (.ref y), .val (.ref y)] [.ref y, .ref t])) := (c13.trans (st14 _ (Steps.refl _))).trans (by
        refine XS.aloadN X14.here hexec rfl (hb hbytes d40) rfl rfl ?_
        exact Steps.refl _)
      obtain ⟨T16, X16, q16, st16⟩ := X14.hget hexec hown (wk W (.fieldLink "java/lang/String" 9 "java/lang/String" "value" "[B")) (hy.mv X14.warmed.alike hh14).2.1 (g := (mkF m 41 #[.val (.ref x), .val (.ref y), .val (.ref y)] [.ref y, .ref t])) rfl (rest := [.ref t]) rfl (hb hbytes d41)
      have hh16 := q16.trans hh14
      have c17 : Steps p.tables e below (s₁.setTop (entryFrame m #[.ref x, .ref y] 3)) (T16.setTop (mkF m 44 #[.val (.ref x), .val (.ref y), .val (.ref y)] [.ref t', .ref t])) := c15.trans (st16 _ (Steps.refl _))
      obtain ⟨v18, T18, X18, E18, g18⟩ := X16.callS hexec (LEq.law l t V t' V') hown (wks W (staticW "java/lang/String" 541 LEq.yN)) (wk W LEq.tab) (W := 0) (Nat.le_of_ble_eq_true rfl) (Nat.le_of_ble_eq_true rfl) (Nat.le_refl _) (Nat.le_refl _) (g := (mkF m 44 #[.val (.ref x), .val (.ref y), .val (.ref y)] [.ref t', .ref t])) rfl (by rw [hml]; rfl) c17 (argsL := [.ref t, .ref t']) (rest := []) rfl rfl (by show 2 * 0 + 0 ≤ _; decide) (hb hbytes d44) (⟨rfl, hx.2.2.2.1.mv X16.warmed.alike hh16, hx.2.2.2.2.1.ty, hy.2.2.2.1.mv X16.warmed.alike hh16, hy.2.2.2.2.1.ty⟩)
      obtain ⟨v, rfl, q18, hv⟩ := E18
      have iff := Cod.eqv hx.2.2.2.2.1 hy.2.2.2.2.1 hx.2.2.2.2.2 hy.2.2.2.2.2
      rcases hv with ⟨rfl, he⟩ | ⟨rfl, he⟩
      · have c19 : Steps p.tables e below (s₁.setTop (entryFrame m #[.ref x, .ref y] 3)) (T18.setTop (mkF m 55 #[.val (.ref x), .val (.ref y), .val (.ref y)] [.int 1])) := Steps.trans g18 (by
          refine XS.ifNo X18.here hexec rfl (hb hbytes d47) rfl (i0_eq_f (by decide)) ?_
          refine iconstV X18.here hexec rfl 1 (hb hbytes d50) (by decide) ?_
          refine XS.goto X18.here hexec rfl (pc0 := 51) rfl (hb hbytes d51) (by decide) rfl ?_
          exact Steps.refl _)
        exact ⟨T18, some (.int 1), _, _, _, X18, rfl, rfl, rfl, (fun h => by cases h), ⟨1, rfl, q18.trans hh16, Or.inl ⟨rfl, iff.mp he⟩⟩, fun fs hl => c19.trans (X18.ireturnOut hexec hret rfl (Or.inr (Or.inl rfl)) (hb hbytes d55) hl)⟩
      · have c19 : Steps p.tables e below (s₁.setTop (entryFrame m #[.ref x, .ref y] 3)) (T18.setTop (mkF m 55 #[.val (.ref x), .val (.ref y), .val (.ref y)] [.int 0])) := Steps.trans g18 (by
          refine XS.ifYes X18.here hexec rfl (pc0 := 47) rfl (hb hbytes d47) rfl (i0_eq_t rfl) (by decide) rfl ?_
          refine iconstV X18.here hexec rfl 0 (hb hbytes d54) (by decide) ?_
          exact Steps.refl _)
        exact ⟨T18, some (.int 0), _, _, _, X18, rfl, rfl, rfl, (fun h => by cases h), ⟨0, rfl, q18.trans hh16, Or.inr ⟨rfl, fun q => he (iff.mpr q)⟩⟩, fun fs hl => c19.trans (X18.ireturnOut hexec hret rfl (Or.inr (Or.inl rfl)) (hb hbytes d55) hl)⟩
    · have c13 : Steps p.tables e below (s₁.setTop (entryFrame m #[.ref x, .ref y] 3)) (T11.setTop (mkF m 55 #[.val (.ref x), .val (.ref y), .val (.ref y)] [.int 0])) := c12.trans (by
        refine XS.icmpYes X11.here hexec rfl (pc0 := 33) rfl (hb hbytes d33) rfl (ii_ne_t hcd) (by decide) rfl ?_
        refine iconstV X11.here hexec rfl 0 (hb hbytes d54) (by decide) ?_
        exact Steps.refl _)
      exact ⟨T11, some (.int 0), _, _, _, X11, rfl, rfl, rfl, (fun h => by cases h), ⟨0, rfl, hh11, Or.inr ⟨rfl, Cod.dif hx.2.2.2.2.1 hy.2.2.2.2.1 hcd⟩⟩, fun fs hl => c13.trans (X11.ireturnOut hexec hret rfl (Or.inr (Or.inl rfl)) (hb hbytes d55) hl)⟩
theorem pays {l : Launch} {R : Room} {p : Program} {e : Env} {below : List Frame} {s : State} {sargs : Array Value} {len W : Nat} (x t : Addr) (V : Cell) (cd : Int32) (n : Nat) (f : Nat → Int32) (y t' : Addr) (V' : Cell) (cd' : Int32) (k : Nat) (g : Nat → Int32) (z : Int32) (htab : tab.before sargs s = true) (hfr : 2 ≤ R.frames) (hlo : W + 28 ≤ R.locals) :
    Back l R p e below s sargs yN len W (fun A₁ a₁ => A₁.cells + 0 ≤ R.cells ∧ A₁.slots + 0 ≤ R.slots ∧ P x t V cd n f y t' V' cd' k g z a₁ A₁.U) (fun A₁ _ v₁ B₁ => Says01 (SameT n f k g) v₁ A₁.U B₁.U ∧ B₁.locs = A₁.locs ++ [] ∧ B₁.cells = A₁.cells + 0 ∧ B₁.slots = A₁.slots + 0) :=
  (law l x t V cd n f y t' V' cd' k g z).pays htab hfr (by omega)
end SEq
end StrChars
namespace StrChars.Road
open Jvm Sem ClassFile Op Lib Jvm.Stand Jvm.Free Jvm.Free.XT
open Jvm.Lib.Cold (StaticIs)
/-- the words of String.isEmpty() -/
abbrev wordsEmp : List Jvm.Cond := [.code Emp.yN Emp.yB 1 (some .boolean), .initialized ST, .fieldLink ST 9 ST "value" "[B"]
theorem tabEmp_of {a : Array Value} {s : State} (h : ∀ w ∈ wordsEmp, w.before a s = true) : Emp.tab.before a s = true := unparts (wk h (.code Emp.yN Emp.yB 1 (some .boolean))) (wks h (.initialized Emp.yN.cls :: Emp.site))
theorem movedEmp {Z s : State} {a0 args : Array Value} (hZ : Z.Warmed39 s.vm) (hw : ∀ d ∈ wordsEmp, d.before a0 Z = true) : ∀ d ∈ wordsEmp, d.before args s = true := fun d hd => by
  have t : ∀ d ∈ wordsEmp, (d.onTables && d.keepsFace) = true := by decide +kernel
  exact RoadKit.mv hZ (hw d hd) (t d hd)
/-- the words of String.equals(Object) -/
abbrev wordsEq : List Jvm.Cond := [.code SEq.yN SEq.yB 3 (some .boolean), .initialized ST, .classLink ST 10 ST, .fieldLink ST 38 ST "COMPACT_STRINGS" "Z", .fieldLink ST 15 ST "coder" "B", .fieldLink ST 9 ST "value" "[B", .methodLink ST 541 LEq.yN, .static LEq.yN, .code LEq.yN LEq.yB 3 (some .boolean), .initialized "java/lang/StringLatin1"]
theorem tabEq_of {a : Array Value} {s : State} (h : ∀ w ∈ wordsEq, w.before a s = true) : SEq.tab.before a s = true := by
  have hl : LEq.tab.before a s = true := unparts (wk h (.code LEq.yN LEq.yB 3 (some .boolean))) (wks h (.initialized LEq.yN.cls :: LEq.site))
  have q := consq hl h
  exact unparts (wk q (.code SEq.yN SEq.yB 3 (some .boolean))) (wks q (.initialized SEq.yN.cls :: SEq.site))
theorem movedEq {Z s : State} {a0 args : Array Value} (hZ : Z.Warmed39 s.vm) (hw : ∀ d ∈ wordsEq, d.before a0 Z = true) : ∀ d ∈ wordsEq, d.before args s = true := fun d hd => by
  have t : ∀ d ∈ wordsEq, (d.onTables && d.keepsFace) = true := by decide +kernel
  exact RoadKit.mv hZ (hw d hd) (t d hd)
/-- the road's facts of a String, as the laws ask it -/
theorem txt_of {Z U : State} {a0 : Array Value} {kI : Nat} (wi : (Jvm.Cond.instantiable ST kI).before a0 Z = true) (al : Z.vm.Alike U.vm) {x t : Addr} {kb : ClassId} {cs : List Int32} {cd N2 : Int32} {vs : List Value} (E : RoadKit.Exa Z U.heap x ST) (V : RoadKit.Fld Z U.heap x ST "value" "[B" (.ref t)) (C : RoadKit.Fld Z U.heap x ST "coder" "B" (.int cd)) (K : RoadKit.Arv Z U.heap t kb .byte N2 vs (.int 0)) (hc : CodA cs cd N2 vs) (hb : ∀ c ∈ cs, ¬ c < 0 ∧ ¬ (65535 : Int32) < c) (l2 : cs.length ≤ 4000) :
    ∃ A, Txt x t A cd cs.length (fun j => cs.getD j 0) U := by
  obtain ⟨A, K1, K2, K3, K4, K5, K6⟩ := K
  have hcod := hc.cod (by omega) K3 K5
  obtain ⟨D, fV, fC, hB, F1, F2, g1, g2, -, -⟩ := strObj wi al E V C
  exact ⟨A, ⟨_, hB.2.2.1, D, hB.1, rfl, by cases q : D.vm <;> first | rfl | exact absurd q (hB.2.1.2 _)⟩, Has.of hB F1 g1, Has.of hB F2 g2, ⟨K1.1, State.isArrayOf_alike al K1.2.1, K1.2.2, by rcases hcod with ⟨-, q, -⟩ | ⟨-, q, -⟩ <;> omega⟩, hcod, fun j hj => by
    have e : cs.getD j 0 = cs[j] := by simp [List.getD_eq_getElem?_getD, hj]
    show ¬ cs.getD j 0 < 0 ∧ ¬ 65535 < cs.getD j 0
    rw [e]; exact hb _ (List.getElem_mem _)⟩
theorem same_list (cs ds : List Int32) : SameT cs.length (fun j => cs.getD j 0) ds.length (fun j => ds.getD j 0) ↔ cs = ds := by
  constructor
  · rintro ⟨e, q⟩
    refine List.ext_getElem e fun j h1 h2 => ?_
    have := q j h1
    simpa [List.getD_eq_getElem?_getD, h1, h2] using this
  · rintro rfl
    exact ⟨rfl, fun _ _ => rfl⟩
/-- **isEmpty() OF SUCH A STRING** -/
theorem empW {p : Program} {l : Launch} {e : Env} {R : Room} {s : State} {args : Array Value} {below : List Frame} {len W : Nat} {Z : State} {a0 : Array Value} {h : Heap} (hZ : Z.Warmed39 s.vm) (hw : ∀ d ∈ wordsEmp, d.before a0 Z = true) {kI : Nat} (wi : (Jvm.Cond.instantiable ST kI).before a0 Z = true)
    {x t : Addr} {kb : ClassId} {cs : List Int32} {cd N2 : Int32} {vs : List Value} (E : RoadKit.Exa Z h x ST) (V : RoadKit.Fld Z h x ST "value" "[B" (.ref t)) (C : RoadKit.Fld Z h x ST "coder" "B" (.int cd)) (K : RoadKit.Arv Z h t kb .byte N2 vs (.int 0)) (hc : CodA cs cd N2 vs) (hb : ∀ c ∈ cs, ¬ c < 0 ∧ ¬ (65535 : Int32) < c) (l2 : cs.length ≤ 4000) (hfr : 1 ≤ R.frames) (hlo : W + 12 ≤ R.locals) :
    Back l R p e below s args (⟨"java/lang/String", "isEmpty", "()Z"⟩ : MethodName) len W (fun P a => a = #[.ref x] ∧ P.U.heap = h ∧ P.cells + 0 ≤ R.cells ∧ P.slots + 0 ≤ R.slots)
      (fun P _ v B => ∃ L, (v = some (.int (if cs.length = 0 then 1 else 0)) ∧ L = [] ∧ B.U.heap = h) ∧ B.locs = P.locs ++ L ∧ B.cells = P.cells + 0 ∧ B.slots = P.slots + 0) := by
  intro m meth c P g ig mk a X hg hsize hdg hW hn hp'
  obtain ⟨rfl, rfl, r1, r2⟩ := hp'
  have al : Z.vm.Alike P.U.vm := hZ.alike.trans X.warmed.alike
  obtain ⟨A, hx⟩ := txt_of wi al E V C K hc hb l2
  obtain ⟨v, B, X', ⟨⟨hv, hh⟩, hl, hk, hs⟩, st⟩ := Emp.pays x t A cd cs.length (fun j => cs.getD j 0) (tabEmp_of (movedEmp hZ hw)) hfr hlo m meth c P g ig mk _ X hg hsize hdg hW hn ⟨r1, r2, rfl, hx⟩
  exact ⟨v, B, X', ⟨[], ⟨hv, rfl, hh⟩, hl, hk, hs⟩, st⟩
/-- **equals(Object) OF TWO SUCH STRINGS**: 1 just where the chars are the same -/
theorem eqW {p : Program} {l : Launch} {e : Env} {R : Room} {s : State} {args : Array Value} {below : List Frame} {len W : Nat} {Z : State} {a0 : Array Value} {h : Heap} (hZ : Z.Warmed39 s.vm) (hw : ∀ d ∈ wordsEq, d.before a0 Z = true) {kI : Nat} (wi : (Jvm.Cond.instantiable ST kI).before a0 Z = true)
    {x t : Addr} {kb : ClassId} {cs : List Int32} {cd N2 : Int32} {vs : List Value} (E : RoadKit.Exa Z h x ST) (V : RoadKit.Fld Z h x ST "value" "[B" (.ref t)) (C : RoadKit.Fld Z h x ST "coder" "B" (.int cd)) (K : RoadKit.Arv Z h t kb .byte N2 vs (.int 0)) (hc : CodA cs cd N2 vs) (hb : ∀ c ∈ cs, ¬ c < 0 ∧ ¬ (65535 : Int32) < c) (l2 : cs.length ≤ 4000)
    {y t' : Addr} {kb' : ClassId} {ds : List Int32} {cd' N2' : Int32} {vs' : List Value} (E' : RoadKit.Exa Z h y ST) (V' : RoadKit.Fld Z h y ST "value" "[B" (.ref t')) (C' : RoadKit.Fld Z h y ST "coder" "B" (.int cd')) (K' : RoadKit.Arv Z h t' kb' .byte N2' vs' (.int 0)) (hc' : CodA ds cd' N2' vs') (hb' : ∀ c ∈ ds, ¬ c < 0 ∧ ¬ (65535 : Int32) < c) (l2' : ds.length ≤ 4000)
    {z : Int32} (S : RoadKit.Sta Z h ST "COMPACT_STRINGS" "Z" (.int z)) (hz : ¬ z = 0) (hfr : 2 ≤ R.frames) (hlo : W + 28 ≤ R.locals) :
    Back l R p e below s args (⟨"java/lang/String", "equals", "(Ljava/lang/Object;)Z"⟩ : MethodName) len W (fun P a => a = #[.ref x, .ref y] ∧ P.U.heap = h ∧ P.cells + 0 ≤ R.cells ∧ P.slots + 0 ≤ R.slots)
      (fun P _ v B => ∃ L, (((v = some (.int 1) ∧ cs = ds) ∨ (v = some (.int 0) ∧ ¬ cs = ds)) ∧ L = [] ∧ B.U.heap = h) ∧ B.locs = P.locs ++ L ∧ B.cells = P.cells + 0 ∧ B.slots = P.slots + 0) := by
  intro m meth c P g ig mk a X hg hsize hdg hW hn hp'
  obtain ⟨rfl, rfl, r1, r2⟩ := hp'
  have al : Z.vm.Alike P.U.vm := hZ.alike.trans X.warmed.alike
  obtain ⟨A, hx⟩ := txt_of wi al E V C K hc hb l2
  obtain ⟨A', hy⟩ := txt_of wi al E' V' C' K' hc' hb' l2'
  obtain ⟨v, B, X', ⟨⟨w, hv, hh, hq⟩, hl, hk, hs⟩, st⟩ := SEq.pays x t A cd cs.length (fun j => cs.getD j 0) y t' A' cd' ds.length (fun j => ds.getD j 0) z (tabEq_of (movedEq hZ hw)) hfr hlo m meth c P g ig mk _ X hg hsize hdg hW hn ⟨r1, r2, rfl, hx, hy, sta_is al S, hz⟩
  refine ⟨v, B, X', ⟨[], ⟨?_, rfl, hh⟩, hl, hk, hs⟩, st⟩
  rcases hq with ⟨rfl, q⟩ | ⟨rfl, q⟩
  · exact Or.inl ⟨hv, (same_list cs ds).mp q⟩
  · exact Or.inr ⟨hv, fun e => q ((same_list cs ds).mpr e)⟩
end StrChars.Road
end Jvm.Pilot.@@N@@
namespace Jvm.Pilot.@@N@@
open Jvm Jvm.ClassFile Sem Op Lib Jvm.Free Jvm.Stand Jvm.LawKit Jvm.RoadKit Bundle Jvm.Pilot.@@N@@.Jvm.D
section Own
variable {p : Program} {l : Launch} {e : Env} {R : Room} {s : State} {m : MethodId} {args : Array Value} {below : List Frame} {meth : Method} {c : Code} {T : State} {locs : List Loc} {cells slots : Nat} {Z : State} {h h' : Heap}
def Run (p : Program) (e : Env) (below : List Frame) (s : State) (C N : Nat) (Q : Option Value → Heap → List Loc → Prop) (S : State) : Prop :=
  ∃ s₂ o, Steps p.tables e below S s₂ ∧ s₂.status = .running ∧ Ended s₂ below o ∧ ∃ v L, o = .returned v ∧ Q v s₂.heap L ∧ FrameEnd s o s₂ L C N
variable {C N : Nat} {Q : Option Value → Heap → List Loc → Prop} {S S' : State}
theorem Run.go (k : ∀ t, Steps p.tables e below S' t → Steps p.tables e below S t) (r : Run p e below s C N Q S') : Run p e below s C N Q S := by
  obtain ⟨s₂, o, h1, r⟩ := r
  exact ⟨s₂, o, k _ h1, r⟩
theorem Run.tr (k : Steps p.tables e below S S') (r : Run p e below s C N Q S') : Run p e below s C N Q S := by
  obtain ⟨s₂, o, h1, r⟩ := r
  exact ⟨s₂, o, k.trans h1, r⟩
theorem Run.retI (X : Stand p l e R s m args below meth c T locs cells slots) (hx : p.tables.exec = Jvm.exec) {pc : Nat} {Ls : Array Slot} {z : Int32} {rest : List Value} (hret : meth.sig.returnType = some .int) (hlk : meth.locks = false) (hd : decode c.code pc = .ok (.ireturn, 1)) (hc : cells ≤ C) (hn : slots ≤ N)
    (hQ : Q (some (.int z)) T.heap locs) : Run p e below s C N Q (T.setTop (mkF m pc Ls (.int z :: rest))) := by
  obtain ⟨fs, hr, hrun, hended, hW, hsame⟩ := X.leave (v := some (.int z)) (fun q => by rw [hret] at q; cases q)
  refine ⟨_, _, ?_, hrun, hended, _, _, rfl, hQ, ⟨_, rfl⟩, hW, hsame.mono hc hn⟩
  have hm' : T.vm.method? m = some meth := X.method'
  have hn : narrow .int (.int z) = .int z := rfl
  show Steps p.tables e below (T.setTop { method := m, pc := pc, locals := Ls, stack := _ :: rest, locked := none }) _
  jvm_step X.here [X.here.top, hx, hd, hm', hret, hn]
  first | (intro acts; rw [hr _ acts rfl rfl rfl]) | rw [hr _ _ rfl rfl rfl]
  exact Steps.refl _
theorem Run.retN (X : Stand p l e R s m args below meth c T locs cells slots) (hx : p.tables.exec = Jvm.exec) {pc : Nat} {Ls : Array Slot} {z y : Int32} {t : FieldType} {rest : List Value} (hret : meth.sig.returnType = some t) (ht : t = .boolean ∨ t = .byte ∨ t = .char ∨ t = .short) (hy : nar t z = y) (hlk : meth.locks = false) (hd : decode c.code pc = .ok (.ireturn, 1)) (hc : cells ≤ C) (hn : slots ≤ N)
    (hQ : Q (some (.int y)) T.heap locs) : Run p e below s C N Q (T.setTop (mkF m pc Ls (.int z :: rest))) := by
  subst hy
  obtain ⟨fs, hr, hrun, hended, hW, hsame⟩ := X.leave (v := some (.int (nar t z))) (fun q => by rw [hret] at q; cases q)
  exact ⟨_, _, Jvm.RoadKit.retN X hx hret ht hd hr, hrun, hended, _, _, rfl, hQ, ⟨_, rfl⟩, hW, hsame.mono hc hn⟩
theorem Run.retJ (X : Stand p l e R s m args below meth c T locs cells slots) (hx : p.tables.exec = Jvm.exec) {pc : Nat} {Ls : Array Slot} {z : Int64} {rest : List Value} (hret : meth.sig.returnType = some .long) (hlk : meth.locks = false) (hd : decode c.code pc = .ok (.lreturn, 1)) (hc : cells ≤ C) (hn : slots ≤ N)
    (hQ : Q (some (.long z)) T.heap locs) : Run p e below s C N Q (T.setTop (mkF m pc Ls (.long z :: rest))) := by
  obtain ⟨fs, hr, hrun, hended, hW, hsame⟩ := X.leave (v := some (.long z)) (fun q => by rw [hret] at q; cases q)
  refine ⟨_, _, ?_, hrun, hended, _, _, rfl, hQ, ⟨_, rfl⟩, hW, hsame.mono hc hn⟩
  have hm' : T.vm.method? m = some meth := X.method'
  show Steps p.tables e below (T.setTop { method := m, pc := pc, locals := Ls, stack := _ :: rest, locked := none }) _
  jvm_step X.here [X.here.top, hx, hd, hm', hret, narrow]
  first | (intro acts; rw [hr _ acts rfl rfl rfl]) | rw [hr _ _ rfl rfl rfl]
  exact Steps.refl _
theorem Run.retA (X : Stand p l e R s m args below meth c T locs cells slots) (hx : p.tables.exec = Jvm.exec) {pc : Nat} {Ls : Array Slot} {w : Value} {t : FieldType} {rest : List Value} (hw : w.isRef = true) (hret : meth.sig.returnType = some t) (ht : t.isReference = true) (hlk : meth.locks = false) (hd : decode c.code pc = .ok (.areturn, 1)) (hc : cells ≤ C) (hn : slots ≤ N)
    (hQ : Q (some w) T.heap locs) : Run p e below s C N Q (T.setTop (mkF m pc Ls (w :: rest))) := by
  obtain ⟨fs, hr, hrun, hended, hW, hsame⟩ := X.leave (v := some w) (fun q => by rw [hret] at q; cases q)
  refine ⟨_, _, ?_, hrun, hended, _, _, rfl, hQ, ⟨_, rfl⟩, hW, hsame.mono hc hn⟩
  have hm' : T.vm.method? m = some meth := X.method'
  show Steps p.tables e below (T.setTop { method := m, pc := pc, locals := Ls, stack := _ :: rest, locked := none }) _
  rcases ref_cases hw with rfl | ⟨a, rfl⟩
  all_goals
    jvm_step X.here [X.here.top, hx, hd, hm', hret, Value.isRef, ht]
    first | (intro acts; rw [hr _ acts rfl rfl rfl]) | rw [hr _ _ rfl rfl rfl]
    exact Steps.refl _
theorem Run.ret0 (X : Stand p l e R s m args below meth c T locs cells slots) (hx : p.tables.exec = Jvm.exec) {pc : Nat} {Ls : Array Slot} (hret : meth.sig.returnType = none) (hlk : meth.locks = false) (hd : decode c.code pc = .ok (.return_, 1)) (hc : cells ≤ C) (hn : slots ≤ N)
    (hQ : Q none T.heap locs) : Run p e below s C N Q (T.setTop (mkF m pc Ls [])) := by
  obtain ⟨fs, hr, hrun, hended, hW, hsame⟩ := X.leave (v := none) (fun _ => rfl)
  exact ⟨_, _, X.returnOut hx hret hd hr, hrun, hended, _, _, rfl, hQ, ⟨_, rfl⟩, hW, hsame.mono hc hn⟩
theorem Stand_gen {k : Nat} (X : Stand p l e R s m args below meth c T locs cells slots) (F : Fr k locs) : ∃ L, Stand p l e R s m args below meth c T L cells slots ∧ Fr k L := ⟨_, X, F⟩
theorem Sta.keep {C n d : String} {w : Value} {ws : List Addr} (F : Sta Z h C n d w) (K : Keep h h' ws) (q : ∀ x ∈ ws, ∀ c : Cell, h[x]? = some c → c.vm.isStatics = false) : Sta Z h' C n d w := by
  obtain ⟨cf, i, k, f, st, cell, h1, h2, h3, h4, h5, h6, h7⟩ := F
  refine ⟨cf, i, k, f, st, cell, h1, h2, h3, h4, K.2.1 st cell h5 (fun hm => ?_), h6, h7⟩
  rw [q st hm cell h5] at h6; cases h6
theorem Exa.nst {a : Addr} {C : String} (F : Exa Z h a C) : ∀ c : Cell, h[a]? = some c → c.vm.isStatics = false := fun c q => by
  obtain ⟨cell, k, h1, -, -, h4, -⟩ := F
  cases h1.symm.trans q; exact h4
/-- an array of n elements, the i-th is f i -/
def Ary (Z : State) (h : Heap) (a : Addr) (ty : FieldType) (n : Nat) (f : Nat → Value) : Prop := ∃ c : Cell, Arr Z h a c ty ∧ c.slots.size = n ∧ ∀ i, i < n → c.slots[i]? = some (f i)
variable {a b : Addr} {ty : FieldType} {n sl : Nat} {f : Nat → Value} {v : Value} {ws : List Addr}
theorem Ary.lt (F : Ary Z h a ty n f) : a < h.size := by obtain ⟨c, A, -⟩ := F; exact A.lt
theorem Ary.ext (F : Ary Z h a ty n f) (E : Ext h h') : Ary Z h' a ty n f := by obtain ⟨c, A, r⟩ := F; exact ⟨c, A.ext E, r⟩
theorem Ary.other (F : Ary Z h b ty n f) (W : Wr h h' a sl v) (q : b ≠ a) : Ary Z h' b ty n f := by obtain ⟨c, A, r⟩ := F; exact ⟨c, A.other W q, r⟩
theorem Ary.keep (F : Ary Z h a ty n f) (K : Keep h h' ws) (q : a ∉ ws) : Ary Z h' a ty n f := by obtain ⟨c, A, r⟩ := F; exact ⟨c, ⟨K.2.1 a c A.1 q, A.2⟩, r⟩
theorem Ary.ne {C : String} {a0 : Array Value} {k : Nat} (F : Ary Z h a ty n f) (G : Exa Z h b C) (wi : (Jvm.Cond.instantiable C k).before a0 Z = true) : a ≠ b := by
  obtain ⟨c, A, r⟩ := F; exact (ne_arr G wi A).symm
theorem Ary.same (F : Ary Z h a ty n f) (W : Wr h h' a sl v) : Ary Z h' a ty n (fun i => if i = sl then v else f i) := by
  obtain ⟨c, A, hs, hf⟩ := F
  obtain ⟨c1, q1, q2, q3, q4⟩ := W
  obtain rfl := Option.some.inj (q1.symm.trans A.1)
  refine ⟨c1.setSlot sl v, A.same ⟨c1, q1, q2, q3, q4⟩, by simp [Cell.setSlot, hs], fun i hi => ?_⟩
  by_cases e : i = sl
  · subst e; simp [Cell.setSlot, q3]
  · simp only [if_neg e]; rw [← hf i hi]; exact Array.getElem?_setIfInBounds_ne (Ne.symm e)
theorem Ary.nst (F : Ary Z h a ty n f) : ∀ c : Cell, h[a]? = some c → c.vm.isStatics = false := fun c q => by
  obtain ⟨cl, A, -⟩ := F
  cases A.1.symm.trans q; exact A.plain
theorem Ary.congr {g : Nat → Value} (F : Ary Z h a ty n f) (q : ∀ i, i < n → f i = g i) : Ary Z h a ty n g := by
  obtain ⟨c, A, hs, hf⟩ := F; exact ⟨c, A, hs, fun i hi => by rw [hf i hi, q i hi]⟩
theorem Ary.new {k : ClassId} {z : Int32} (A : Arr Z h a (newA k ty z) ty) (q : z.toNatClampNeg = n) : Ary Z h a ty n (fun _ => defaultValue ty) := by
  subst q
  exact ⟨_, A, sz_new _ _ _, fun i hi => by simp [newA, hi]⟩
theorem out_of {j : Int32} {c : Cell} (hs : c.slots.size = n) (h0 : ¬ j < 0) (hj : j.toNatClampNeg < n) : ¬ (j < 0 ∨ c.slots.size ≤ j.toNatClampNeg) := by
  rw [hs]; exact fun q => q.elim h0 (fun q => absurd hj (Nat.not_lt.mpr q))
/-- an array of references: besides, its class is that of arrays over C -/
def ArR (Z : State) (h : Heap) (a : Addr) (C : String) (n : Nat) (f : Nat → Value) : Prop := ∃ c : Cell, Arr Z h a c (.object C) ∧ Ovr Z c.cls C ∧ c.slots.size = n ∧ ∀ i, i < n → c.slots[i]? = some (f i)
variable {K : String}
theorem ArR.lt (F : ArR Z h a K n f) : a < h.size := by obtain ⟨c, A, -⟩ := F; exact A.lt
theorem ArR.ext (F : ArR Z h a K n f) (E : Ext h h') : ArR Z h' a K n f := by obtain ⟨c, A, r⟩ := F; exact ⟨c, A.ext E, r⟩
theorem ArR.other (F : ArR Z h b K n f) (W : Wr h h' a sl v) (q : b ≠ a) : ArR Z h' b K n f := by obtain ⟨c, A, r⟩ := F; exact ⟨c, A.other W q, r⟩
theorem ArR.keep (F : ArR Z h a K n f) (k : Keep h h' ws) (q : a ∉ ws) : ArR Z h' a K n f := by obtain ⟨c, A, r⟩ := F; exact ⟨c, ⟨k.2.1 a c A.1 q, A.2⟩, r⟩
theorem ArR.ary (F : ArR Z h a K n f) : Ary Z h a (.object K) n f := by obtain ⟨c, A, -, r⟩ := F; exact ⟨c, A, r⟩
theorem ArR.same (F : ArR Z h a K n f) (W : Wr h h' a sl v) : ArR Z h' a K n (fun i => if i = sl then v else f i) := by
  obtain ⟨c, A, o, hs, hf⟩ := F
  obtain ⟨c1, q1, q2, q3, q4⟩ := W
  obtain rfl := Option.some.inj (q1.symm.trans A.1)
  refine ⟨c1.setSlot sl v, A.same ⟨c1, q1, q2, q3, q4⟩, o, by simp [Cell.setSlot, hs], fun i hi => ?_⟩
  by_cases e : i = sl
  · subst e; simp [Cell.setSlot, q3]
  · simp only [if_neg e]; rw [← hf i hi]; exact Array.getElem?_setIfInBounds_ne (Ne.symm e)
theorem ArR.new {k : ClassId} {z : Int32} (A : Arr Z h a (newA k (.object K) z) (.object K)) (O : Ovr Z k K) (q : z.toNatClampNeg = n) : ArR Z h a K n (fun _ => .null) := by
  subst q
  exact ⟨_, A, O, sz_new _ _ _, fun i hi => by simp [newA, hi]; rfl⟩
section Arrays
theorem ary_iget (X : Stand p l e R s m args below meth c T locs cells slots) (hx : p.tables.exec = Jvm.exec) (hZ : Z.Warmed39 s.vm) (eT : T.heap = h) (A : Ary Z h a .int n f) {j : Int32} (h0 : ¬ j < 0) (hj : j.toNatClampNeg < n) {g : JFrame} (hg : g.method = m) {rest : List Value} (hs : g.stack = .int j :: .ref a :: rest) (hd : decode c.code g.pc = .ok (.iaload, 1)) {v : Value} (hv : f j.toNatClampNeg = v) (target : State)
    (k : Steps p.tables e below (T.setTop { g with pc := g.pc + 1, stack := v :: rest }) target) : Steps p.tables e below (T.setTop g) target := by
  subst hv; obtain ⟨cl, A, q, F⟩ := A
  exact X.iaload hx (by rw [eT]; exact A.1) (State.isArrayOf_alike hZ.alike A.2.1) A.2.2 (out_of q h0 hj) (F _ hj) hg hs hd target k
theorem ary_lget (X : Stand p l e R s m args below meth c T locs cells slots) (hx : p.tables.exec = Jvm.exec) (hZ : Z.Warmed39 s.vm) (eT : T.heap = h) (A : Ary Z h a .long n f) {j : Int32} (h0 : ¬ j < 0) (hj : j.toNatClampNeg < n) {g : JFrame} (hg : g.method = m) {rest : List Value} (hs : g.stack = .int j :: .ref a :: rest) (hd : decode c.code g.pc = .ok (.laload, 1)) {v : Value} (hv : f j.toNatClampNeg = v) (target : State)
    (k : Steps p.tables e below (T.setTop { g with pc := g.pc + 1, stack := v :: rest }) target) : Steps p.tables e below (T.setTop g) target := by
  subst hv; obtain ⟨cl, A, q, F⟩ := A
  exact X.laload hx (by rw [eT]; exact A.1) (State.isArrayOf_alike hZ.alike A.2.1) A.2.2 (out_of q h0 hj) (F _ hj) hg hs hd target k
theorem ary_bget (X : Stand p l e R s m args below meth c T locs cells slots) (hx : p.tables.exec = Jvm.exec) (hZ : Z.Warmed39 s.vm) (eT : T.heap = h) (A : Ary Z h a .byte n f) {j : Int32} (h0 : ¬ j < 0) (hj : j.toNatClampNeg < n) {g : JFrame} (hg : g.method = m) {rest : List Value} (hs : g.stack = .int j :: .ref a :: rest) (hd : decode c.code g.pc = .ok (.baload, 1)) {v : Value} (hv : f j.toNatClampNeg = v) (target : State)
    (k : Steps p.tables e below (T.setTop { g with pc := g.pc + 1, stack := v :: rest }) target) : Steps p.tables e below (T.setTop g) target := by
  subst hv; obtain ⟨cl, A, q, F⟩ := A
  exact X.baloadBytes hx (by rw [eT]; exact A.1) (State.isArrayOf_alike hZ.alike A.2.1) A.2.2 (out_of q h0 hj) (F _ hj) hg hs hd target k
theorem ary_cget (X : Stand p l e R s m args below meth c T locs cells slots) (hx : p.tables.exec = Jvm.exec) (hZ : Z.Warmed39 s.vm) (eT : T.heap = h) (A : Ary Z h a .char n f) {j : Int32} (h0 : ¬ j < 0) (hj : j.toNatClampNeg < n) {g : JFrame} (hg : g.method = m) {rest : List Value} (hs : g.stack = .int j :: .ref a :: rest) (hd : decode c.code g.pc = .ok (.caload, 1)) {v : Value} (hv : f j.toNatClampNeg = v) (target : State)
    (k : Steps p.tables e below (T.setTop { g with pc := g.pc + 1, stack := v :: rest }) target) : Steps p.tables e below (T.setTop g) target := by
  subst hv; obtain ⟨cl, A, q, F⟩ := A
  exact X.caload hx (by rw [eT]; exact A.1) (State.isArrayOf_alike hZ.alike A.2.1) A.2.2 (out_of q h0 hj) (F _ hj) hg hs hd target k
theorem ary_aget (X : Stand p l e R s m args below meth c T locs cells slots) (hx : p.tables.exec = Jvm.exec) (hZ : Z.Warmed39 s.vm) (eT : T.heap = h) (A : Ary Z h a ty n f) (hr : ty.isReference = true) {j : Int32} (h0 : ¬ j < 0) (hj : j.toNatClampNeg < n) {g : JFrame} (hg : g.method = m) {rest : List Value} (hs : g.stack = .int j :: .ref a :: rest) (hd : decode c.code g.pc = .ok (.aaload, 1)) {v : Value} (hv : f j.toNatClampNeg = v) (target : State)
    (k : Steps p.tables e below (T.setTop { g with pc := g.pc + 1, stack := v :: rest }) target) : Steps p.tables e below (T.setTop g) target := by
  subst hv; obtain ⟨cl, A, q, F⟩ := A
  exact X.aaload hx (by rw [eT]; exact A.1) (State.isArrayOf_alike hZ.alike A.2.1) hr A.2.2 (out_of q h0 hj) (F _ hj) hg hs hd target k
theorem ary_len (X : Stand p l e R s m args below meth c T locs cells slots) (hx : p.tables.exec = Jvm.exec) (hZ : Z.Warmed39 s.vm) (eT : T.heap = h) (A : Ary Z h a ty n f) {g : JFrame} (hg : g.method = m) {rest : List Value} (hs : g.stack = .ref a :: rest) (hd : decode c.code g.pc = .ok (.arraylength, 1)) {z : Int32} (hv : n.toInt32 = z) (target : State)
    (k : Steps p.tables e below (T.setTop { g with pc := g.pc + 1, stack := .int z :: rest }) target) : Steps p.tables e below (T.setTop g) target := by
  subst hv; obtain ⟨cl, A, q, F⟩ := A
  subst q
  exact X.arraylength hx (by rw [eT]; exact A.1) (State.isArrayOf_alike hZ.alike A.2.1) hg hs hd target k
theorem ary_iset (X : Stand p l e R s m args below meth c T locs cells slots) (hx : p.tables.exec = Jvm.exec) (hZ : Z.Warmed39 s.vm) (eT : T.heap = h) (A : Ary Z h a .int n f) {j x : Int32} (h0 : ¬ j < 0) (hj : j.toNatClampNeg < n) {g : JFrame} (hg : g.method = m) {rest : List Value} (hs : g.stack = .int x :: .int j :: .ref a :: rest) (hd : decode c.code g.pc = .ok (.iastore, 1)) :
    ∃ T' h', Stand p l e R s m args below meth c T' (locs ++ [⟨a, j.toNatClampNeg⟩]) cells slots ∧ T'.heap = h' ∧ Wr h h' a j.toNatClampNeg (.int x) ∧ ∀ target, Steps p.tables e below (T'.setTop { g with pc := g.pc + 1, stack := rest }) target → Steps p.tables e below (T.setTop g) target := by
  obtain ⟨cl, A, q, F⟩ := A
  exact stI X hx hZ eT A (out_of q h0 hj) hg hs hd
theorem ary_lset (X : Stand p l e R s m args below meth c T locs cells slots) (hx : p.tables.exec = Jvm.exec) (hZ : Z.Warmed39 s.vm) (eT : T.heap = h) (A : Ary Z h a .long n f) {j : Int32} {x : Int64} (h0 : ¬ j < 0) (hj : j.toNatClampNeg < n) {g : JFrame} (hg : g.method = m) {rest : List Value} (hs : g.stack = .long x :: .int j :: .ref a :: rest) (hd : decode c.code g.pc = .ok (.lastore, 1)) :
    ∃ T' h', Stand p l e R s m args below meth c T' (locs ++ [⟨a, j.toNatClampNeg⟩]) cells slots ∧ T'.heap = h' ∧ Wr h h' a j.toNatClampNeg (.long x) ∧ ∀ target, Steps p.tables e below (T'.setTop { g with pc := g.pc + 1, stack := rest }) target → Steps p.tables e below (T.setTop g) target := by
  obtain ⟨cl, A, q, F⟩ := A
  exact stJ X hx hZ eT A (out_of q h0 hj) hg hs hd
theorem ary_bset (X : Stand p l e R s m args below meth c T locs cells slots) (hx : p.tables.exec = Jvm.exec) (hZ : Z.Warmed39 s.vm) (eT : T.heap = h) (A : Ary Z h a .byte n f) {j x y : Int32} (h0 : ¬ j < 0) (hj : j.toNatClampNeg < n) {g : JFrame} (hg : g.method = m) {rest : List Value} (hs : g.stack = .int x :: .int j :: .ref a :: rest) (hd : decode c.code g.pc = .ok (.bastore, 1)) (hy : x.toInt8.toInt32 = y) :
    ∃ T' h', Stand p l e R s m args below meth c T' (locs ++ [⟨a, j.toNatClampNeg⟩]) cells slots ∧ T'.heap = h' ∧ Wr h h' a j.toNatClampNeg (.int y) ∧ ∀ target, Steps p.tables e below (T'.setTop { g with pc := g.pc + 1, stack := rest }) target → Steps p.tables e below (T.setTop g) target := by
  subst hy; obtain ⟨cl, A, q, F⟩ := A
  exact stB X hx hZ eT A (out_of q h0 hj) hg hs hd
theorem ary_cset (X : Stand p l e R s m args below meth c T locs cells slots) (hx : p.tables.exec = Jvm.exec) (hZ : Z.Warmed39 s.vm) (eT : T.heap = h) (A : Ary Z h a .char n f) {j x y : Int32} (h0 : ¬ j < 0) (hj : j.toNatClampNeg < n) {g : JFrame} (hg : g.method = m) {rest : List Value} (hs : g.stack = .int x :: .int j :: .ref a :: rest) (hd : decode c.code g.pc = .ok (.castore, 1)) (hy : nar .char x = y) :
    ∃ T' h', Stand p l e R s m args below meth c T' (locs ++ [⟨a, j.toNatClampNeg⟩]) cells slots ∧ T'.heap = h' ∧ Wr h h' a j.toNatClampNeg (.int y) ∧ ∀ target, Steps p.tables e below (T'.setTop { g with pc := g.pc + 1, stack := rest }) target → Steps p.tables e below (T.setTop g) target := by
  subst hy; obtain ⟨cl, A, q, F⟩ := A
  exact stC X hx hZ eT A (out_of q h0 hj) hg hs hd
theorem arr_set (X : Stand p l e R s m args below meth c T locs cells slots) (hx : p.tables.exec = Jvm.exec) (hZ : Z.Warmed39 s.vm) (eT : T.heap = h) (A : ArR Z h a K n f) {j : Int32} {y : Addr} (I : Ins Z h y K true) (h0 : ¬ j < 0) (hj : j.toNatClampNeg < n) {g : JFrame} (hg : g.method = m) {rest : List Value} (hs : g.stack = .ref y :: .int j :: .ref a :: rest) (hd : decode c.code g.pc = .ok (.aastore, 1)) :
    ∃ T' h', Stand p l e R s m args below meth c T' (locs ++ [⟨a, j.toNatClampNeg⟩]) cells slots ∧ T'.heap = h' ∧ Wr h h' a j.toNatClampNeg (.ref y) ∧ ∀ target, Steps p.tables e below (T'.setTop { g with pc := g.pc + 1, stack := rest }) target → Steps p.tables e below (T.setTop g) target := by
  obtain ⟨cl, A, O, q, F⟩ := A
  exact stR X hx hZ eT A (out_of q h0 hj) rfl (Sto.of A O I) hg hs hd
end Arrays
theorem nar_ite (P : Prop) [Decidable P] : nar .boolean (if P then (1 : Int32) else 0) = if P then 1 else 0 := by by_cases q : P <;> simp [q] <;> rfl
theorem cat_ref {w : Value} (q : w.isRef = true) : w.category = 1 := by cases w <;> first | rfl | (simp [Value.isRef] at q)
theorem upd_hit {g f : Nat → Value} {k : Nat} {w : Value} (q : g = fun i => if i = k then w else f i) : g k = w := by rw [q]; exact if_pos rfl
theorem upd_miss {g f : Nat → Value} {k j : Nat} {w u : Value} (q : g = fun i => if i = k then w else f i) (ne : ¬ j = k) (r : f j = u) : g j = u := by rw [q]; exact (if_neg ne).trans r
theorem upd_c {g : Nat → Value} {j : Nat} {w : Value} (q : g = fun _ => w) : g j = w := by rw [q]
theorem b_idem (x : Int32) : x.toInt8.toInt32.toInt8.toInt32 = x.toInt8.toInt32 := by rw [Int8.toInt8_toInt32]
theorem isI_c (x : Int32) : ∀ n : Nat, ∃ y, (fun _ => Value.int x) n = Value.int y := fun _ => ⟨x, rfl⟩
theorem isI_s {f : Nat → Value} (q : ∀ n, ∃ y, f n = Value.int y) (k : Nat) (x : Int32) : ∀ n, ∃ y, (fun i => if i = k then Value.int x else f i) n = Value.int y := fun n => by
  by_cases e : n = k
  · exact ⟨x, if_pos e⟩
  · obtain ⟨y, hy⟩ := q n
    exact ⟨y, (if_neg e).trans hy⟩
end Own
section OwnCold
variable {p : Program} {l : Launch} {e : Env} {R : Room} {s : State} {m : MethodId} {args : Array Value} {below : List Frame} {meth : Method} {c : Code} {T : State} {locs : List Loc} {cells slots : Nat} {Z : State} {h h' : Heap} {a0 : Array Value} {EL : List (String × Nat)} {vm0 : Vm}
def RunW (p : Program) (e : Env) (below : List Frame) (s : State) (Z : State) (EL : List (String × Nat)) (C N : Nat) (Q : Option Value → Heap → List Loc → Prop) (S : State) : Prop :=
  ∃ s₂ o, Steps p.tables e below S s₂ ∧ s₂.status = .running ∧ Ended s₂ below o ∧ ∃ v L, o = .returned v ∧ Q v s₂.heap L ∧ CHr Z EL s.vm s.heap s₂.vm s₂.heap ∧ ReturnedEndW s o s₂ L C N
variable {C N : Nat} {Q : Option Value → Heap → List Loc → Prop} {S S' : State}
theorem RunW.go (k : ∀ t, Steps p.tables e below S' t → Steps p.tables e below S t) (r : RunW p e below s Z EL C N Q S') : RunW p e below s Z EL C N Q S := by
  obtain ⟨s₂, o, h1, r⟩ := r
  exact ⟨s₂, o, k _ h1, r⟩
theorem RunW.tr (k : Steps p.tables e below S S') (r : RunW p e below s Z EL C N Q S') : RunW p e below s Z EL C N Q S := by
  obtain ⟨s₂, o, h1, r⟩ := r
  exact ⟨s₂, o, k.trans h1, r⟩
theorem ReturnedEndW.up {t : State} {o : Outcome} {L : List Loc} {k n k' n' : Nat} (h : ReturnedEndW s o t L k n) (h1 : k ≤ k') (h2 : n ≤ n') : ReturnedEndW s o t L k' n' := ⟨h.1, h.2.1, h.2.2.1, h.2.2.2.mono h1 h2⟩
theorem RunW.retN (X : Stand p l e R (s.setVm vm0) m args below meth c T locs cells slots) (hx : p.tables.exec = Jvm.exec) (hZ : Z.Warmed39 vm0) (hEL : EW Z a0 EL) {k0 : Nat} (hS : s.Since vm0 k0) (hk : k0 ≤ h.size) (eT : T.heap = h) (hC : CHr Z EL s.vm s.heap vm0 h) {pc : Nat} {Ls : Array Slot} {z y : Int32} {t : FieldType} {rest : List Value} (hret : meth.sig.returnType = some t) (ht : t = .boolean ∨ t = .byte ∨ t = .char ∨ t = .short) (hy : nar t z = y) (hlk : meth.locks = false) (hd : decode c.code pc = .ok (.ireturn, 1)) (hc : cells ≤ C) (hn : slots ≤ N)
    (hQ : Q (some (.int y)) T.heap locs) : RunW p e below s Z EL C N Q (T.setTop (mkF m pc Ls (.int z :: rest))) := by
  subst hy eT
  have hF := hC.trans (CHv.at X hZ hEL hC.1)
  obtain ⟨fs, hr, hrun, hended, hW⟩ := X.leaveW hS hk (v := some (.int (nar t z))) (fun q => by rw [hret] at q; cases q)
  exact ⟨_, _, Jvm.RoadKit.retN X hx hret ht hd hr, hrun, hended, _, _, rfl, hQ, hF, ReturnedEndW.up hW hc hn⟩
theorem RunW.retA (X : Stand p l e R (s.setVm vm0) m args below meth c T locs cells slots) (hx : p.tables.exec = Jvm.exec) (hZ : Z.Warmed39 vm0) (hEL : EW Z a0 EL) {k0 : Nat} (hS : s.Since vm0 k0) (hk : k0 ≤ h.size) (eT : T.heap = h) (hC : CHr Z EL s.vm s.heap vm0 h) {pc : Nat} {Ls : Array Slot} {w : Value} {t : FieldType} {rest : List Value} (hw : w.isRef = true) (hret : meth.sig.returnType = some t) (ht : t.isReference = true) (hlk : meth.locks = false) (hd : decode c.code pc = .ok (.areturn, 1)) (hc : cells ≤ C) (hn : slots ≤ N)
    (hQ : Q (some w) T.heap locs) : RunW p e below s Z EL C N Q (T.setTop (mkF m pc Ls (w :: rest))) := by
  subst eT
  have hF := hC.trans (CHv.at X hZ hEL hC.1)
  obtain ⟨fs, hr, hrun, hended, hW⟩ := X.leaveW hS hk (v := some w) (fun q => by rw [hret] at q; cases q)
  refine ⟨_, _, ?_, hrun, hended, _, _, rfl, hQ, hF, ReturnedEndW.up hW hc hn⟩
  have hm' : T.vm.method? m = some meth := X.method'
  show Steps p.tables e below (T.setTop { method := m, pc := pc, locals := Ls, stack := _ :: rest, locked := none }) _
  rcases ref_cases hw with rfl | ⟨a, rfl⟩
  all_goals
    jvm_step X.here [X.here.top, hx, hd, hm', hret, Value.isRef, ht]
    first | (intro acts; rw [hr _ acts rfl rfl rfl]) | rw [hr _ _ rfl rfl rfl]
    exact Steps.refl _
theorem RunW.ret0 (X : Stand p l e R (s.setVm vm0) m args below meth c T locs cells slots) (hx : p.tables.exec = Jvm.exec) (hZ : Z.Warmed39 vm0) (hEL : EW Z a0 EL) {k0 : Nat} (hS : s.Since vm0 k0) (hk : k0 ≤ h.size) (eT : T.heap = h) (hC : CHr Z EL s.vm s.heap vm0 h) {pc : Nat} {Ls : Array Slot} (hret : meth.sig.returnType = none) (hlk : meth.locks = false) (hd : decode c.code pc = .ok (.return_, 1)) (hc : cells ≤ C) (hn : slots ≤ N)
    (hQ : Q none T.heap locs) : RunW p e below s Z EL C N Q (T.setTop (mkF m pc Ls [])) := by
  subst eT
  have hF := hC.trans (CHv.at X hZ hEL hC.1)
  obtain ⟨fs, hr, hrun, hended, hW⟩ := X.leaveW hS hk (v := none) (fun _ => rfl)
  exact ⟨_, _, X.returnOut hx hret hd hr, hrun, hended, _, _, rfl, hQ, hF, ReturnedEndW.up hW hc hn⟩
theorem exa_ne {x y : Addr} {A B : String} (E : Exa Z h x A) (F : Exa Z h y B) (q : A ≠ B) : x ≠ y := fun r => by
  subst r
  obtain ⟨c1, k1, a1, a2, a3, -⟩ := E
  obtain ⟨c2, k2, b1, b2, b3, -⟩ := F
  cases a1.symm.trans b1
  obtain ⟨u, u1, u2⟩ := Vm.findClass_spec a2
  obtain ⟨v, v1, v2⟩ := Vm.findClass_spec b2
  cases u1.symm.trans v1
  exact q (by rw [← u2, ← v2])
theorem coldEnd {U : State} {o : Outcome} {L : List Loc} {C' N' : Nat} (hZ : Z.Warmed39 s.vm) (hEL : EW Z a0 EL) (H : CHv Z EL s.vm s.heap) (K : Keep s.heap U.heap []) (hF : FrameEnd s o U L C' N') : CHr Z EL s.vm s.heap U.vm U.heap ∧ ReturnedEndW s o U L C' N' := by
  have H1 := CHr.keep K (fun x hx => by cases hx) H
  have hW : s.WarmedH U.vm := hF.2.1
  have H2 := CHv.later (h' := U.heap) hZ (hW := (show (Wst Z s.vm U.heap).Warmed39 U.vm from hW.wide)) hEL ⟨Nat.le_refl _, fun _ _ q => q⟩ (Or.inl hW.interned_eq) H1.1
  exact ⟨H1.trans ⟨H2.1, Nat.le_refl _, H2.2⟩, ReturnedEndW.of_narrow hF.1 hF.2.1 hF.2.2⟩
theorem coldOf {y : MethodName} {bytes : ByteArray} {maxL : Nat} {ret : Option FieldType} {ws : List Jvm.Cond} {rm : Room} {as' : Array Value} {h0 : Heap} {C' N' : Nat}
    (hM : MetFree l y (head1 (Cond.code y bytes maxL ret :: ws) rm) (fun a U => a = as' ∧ Z.Warmed39 U.vm ∧ U.heap = h0) (fun _ _ _ _ _ => True) (fun _ U o U' => ∃ v L, o = .returned v ∧ Q v U'.heap L ∧ FrameEnd U o U' L C' N')) (hQ : ∀ v h L, Q v h L → Keep h0 h []) (hEL : EW Z a0 EL) :
    MetFree l y (head1 (Cond.code y bytes maxL ret :: ws) rm) (fun a U => a = as' ∧ Z.Warmed39 U.vm ∧ U.heap = h0 ∧ CHv Z EL U.vm h0) (fun _ _ _ _ _ => True) (fun _ U o U' => ∃ v L, o = .returned v ∧ Q v U'.heap L ∧ CHr Z EL U.vm U.heap U'.vm U'.heap ∧ ReturnedEndW U o U' L C' N') := by
  intro p e ha hc hk s m args below hf happ hP hK
  obtain ⟨rfl, hZ, rfl, H⟩ := hP
  obtain ⟨k, o, h1, h2, h3, v, L, rfl, q, hF⟩ := hM p e ha hc hk s m _ below hf happ ⟨rfl, hZ, rfl⟩ hK
  obtain ⟨r1, r2⟩ := coldEnd hZ hEL H (hQ _ _ _ q) hF
  exact ⟨k, _, h1, h2, h3, v, L, rfl, q, r1, r2⟩
/-- a String of the chars cs, each 0 to 255, at most two of them -/
def SStr (Z : State) (h : Heap) (x : Addr) (cs : List Int32) : Prop := ∃ (t : Addr) (kb : ClassId), Exa Z h x "java/lang/String" ∧ Fld Z h x "java/lang/String" "value" "[B" (.ref t) ∧ Fld Z h x "java/lang/String" "coder" "B" (.int 0) ∧ Arv Z h t kb .byte (Int32.ofNat cs.length) (cs.map (fun c => Value.int c.toInt8.toInt32)) (.int 0) ∧ (∀ c ∈ cs, ¬ c < 0 ∧ ¬ (255 : Int32) < c) ∧ cs.length ≤ 2
theorem SStr.exa {x : Addr} {cs : List Int32} (F : SStr Z h x cs) : Exa Z h x "java/lang/String" := by obtain ⟨t, kb, E, -⟩ := F; exact E
theorem SStr.lt {x : Addr} {cs : List Int32} (F : SStr Z h x cs) : x < h.size := F.exa.lt
theorem SStr.ext {x : Addr} {cs : List Int32} (F : SStr Z h x cs) (X : Ext h h') : SStr Z h' x cs := by
  obtain ⟨t, kb, E, V, C, K, r⟩ := F; exact ⟨t, kb, E.ext X, V.ext X, C.ext X, K.ext X, r⟩
theorem SStr.keep0 {x : Addr} {cs : List Int32} (F : SStr Z h x cs) (X : Keep h h' []) : SStr Z h' x cs := by
  obtain ⟨t, kb, E, V, C, K, r⟩ := F; exact ⟨t, kb, E.keep X, V.keep X nin0, C.keep X nin0, K.keep X nin0, r⟩
theorem SStr.off {x y : Addr} {cs : List Int32} {A : String} {k : Nat} (F : SStr Z h x cs) (G : Exa Z h y A) (wi : (Jvm.Cond.instantiable A k).before a0 Z = true) (q : "java/lang/String" ≠ A) : ∃ t, x ≠ y ∧ t ≠ y ∧ ∃ kb, Exa Z h x "java/lang/String" ∧ Fld Z h x "java/lang/String" "value" "[B" (.ref t) ∧ Fld Z h x "java/lang/String" "coder" "B" (.int 0) ∧ Arv Z h t kb .byte (Int32.ofNat cs.length) (cs.map (fun c => Value.int c.toInt8.toInt32)) (.int 0) ∧ (∀ c ∈ cs, ¬ c < 0 ∧ ¬ (255 : Int32) < c) ∧ cs.length ≤ 2 := by
  obtain ⟨t, kb, E, V, C, K, r⟩ := F
  refine ⟨t, exa_ne E G q, ?_, kb, E, V, C, K, r⟩
  obtain ⟨cl, A', -⟩ := K
  exact (ne_arr G wi A').symm
theorem SStr.keep1 {x y : Addr} {cs : List Int32} {A : String} {k : Nat} (F : SStr Z h x cs) (X : Keep h h' [y]) (G : Exa Z h y A) (wi : (Jvm.Cond.instantiable A k).before a0 Z = true) (q : "java/lang/String" ≠ A) : SStr Z h' x cs := by
  obtain ⟨t, n1, n2, kb, E, V, C, K, r⟩ := F.off G wi q
  exact ⟨t, kb, E.keep X, V.keep X (ninS n1 nin0), C.keep X (ninS n1 nin0), K.keep X (ninS n2 nin0), r⟩
theorem SStr.wr {x y : Addr} {cs : List Int32} {A : String} {k sl : Nat} {v : Value} (F : SStr Z h x cs) (X : Wr h h' y sl v) (G : Exa Z h y A) (wi : (Jvm.Cond.instantiable A k).before a0 Z = true) (q : "java/lang/String" ≠ A) : SStr Z h' x cs := by
  obtain ⟨t, n1, n2, kb, E, V, C, K, r⟩ := F.off G wi q
  exact ⟨t, kb, E.wr X, V.other X (Or.inl n1), C.other X (Or.inl n1), K.other X n2, r⟩
end OwnCold

theorem d4_0 : decode jdk_43_method_3_code 0 = .ok (.iload_n 0, 1) := by decide +kernel
theorem d4_1 : decode jdk_43_method_3_code 1 = .ok (.sipush 255, 3) := by decide +kernel
theorem d4_4 : decode jdk_43_method_3_code 4 = .ok (.if_icmp .gt 7, 3) := by decide +kernel
theorem d4_11 : decode jdk_43_method_3_code 11 = .ok (.iconst 0, 1) := by decide +kernel
theorem d4_7 : decode jdk_43_method_3_code 7 = .ok (.iconst 1, 1) := by decide +kernel
theorem d4_8 : decode jdk_43_method_3_code 8 = .ok (.goto 4, 3) := by decide +kernel
theorem d4_12 : decode jdk_43_method_3_code 12 = .ok (.ireturn, 1) := by decide +kernel
def F_rm4 (p1 : Int32) : Int32 := let w3 : Int32 := (if (¬ ((255 : Int32) < p1)) then (1 : Int32) else 0); w3
def Q_rm4 (Z : State) (p1 : Int32) (h0 : Heap) (n0 : Nat) (v : Option Value) (h : Heap) (L : List Loc) : Prop := v = some (.int (F_rm4 p1)) ∧ Fr n0 L ∧ h = h0
theorem ef_rm4 (m : MethodId) (x0 : Int32) : entryFrame m #[(.int x0)] 1 = mkF m 0 #[.val (.int x0)] [] := by first | (simp [entryFrame, mkF, argsToLocals, Value.category]; done) | rfl
theorem pn_0 : plainName "java/lang/StringLatin1" = true := by first | (simp [plainName, overriddenIn]; done) | decide +kernel
set_option maxRecDepth 65536 in
set_option maxHeartbeats 40000000 in
theorem rm4 (l : Launch) (Z : State) (a0 : Array Value) (hw : ∀ d ∈ tables_1, d.before a0 Z = true) (ws : List Jvm.Cond) (p1 : Int32) (h0 : Heap) (n0 : Nat) (Z0 : n0 ≤ h0.size)  :
    MetFree l (⟨"java/lang/StringLatin1", "canEncode", "(C)Z"⟩ : MethodName) (head1 (Jvm.Cond.code (⟨"java/lang/StringLatin1", "canEncode", "(C)Z"⟩ : MethodName) jdk_43_method_3_code 1 (some .boolean) :: ws) ({ frames := 0, cells := 0, slots := 0, locals := 0 } : Room)) (fun a U => a = #[(.int p1)] ∧ Z.Warmed39 U.vm ∧ U.heap = h0) (fun _ _ _ _ _ => True) (fun _ U o U' => ∃ v L, o = .returned v ∧ Q_rm4 Z p1 h0 n0 v U'.heap L ∧ FrameEnd U o U' L ({ frames := 0, cells := 0, slots := 0, locals := 0 } : Room).cells ({ frames := 0, cells := 0, slots := 0, locals := 0 } : Room).slots) := by
  refine MetFree.of_bodySF (plainFor_of_name pn_0) hisR ?_
  intro p e s m args below meth c s₁ Bd hml0 hP hK
  obtain ⟨rfl, hZ, hh⟩ := hP
  have hx := Bd.exec
  have hby := Bd.bytes
  have hml : c.maxLocals = 1 := hml0
  have hown : s.vm.findClass "java/lang/StringLatin1" = some m.cls := findClass_of_methodNamed Bd.named
  have hnm := (name_of_methodNamed Bd.named Bd.method).1
  have X0 : Stand p l e ({ frames := 0, cells := 0, slots := 0, locals := 0 } : Room) s m #[(.int p1)] below meth c s₁ [] 0 0 := Stand.of_body Bd
  have e0 : s₁.heap = h0 := by rw [← hh, Bd.state]; rfl
  have N0 := Fr.nil n0
  show Run p e below s 0 0 (Q_rm4 Z p1 h0 n0) (s₁.setTop (entryFrame m #[(.int p1)] 1))
  refine Run.go (fun _ k => castTop (ef_rm4 m p1) k) ?_
  show Run p e below s 0 0 (Q_rm4 Z p1 h0 n0) (s₁.setTop (mkF m 0 #[.val (.int p1)] []))
  refine Run.go (fun _ k => XS.iloadN X0.here hx rfl (hb hby d4_0) rfl  k) ?_
  show Run p e below s 0 0 (Q_rm4 Z p1 h0 n0) (s₁.setTop (mkF m 1 #[.val (.int p1)] [(.int p1)]))
  refine Run.go (fun _ k => XS.sipush X0.here hx rfl (hb hby d4_1) k) ?_
  show Run p e below s 0 0 (Q_rm4 Z p1 h0 n0) (s₁.setTop (mkF m 4 #[.val (.int p1)] [(.int (255 : Int32)), (.int p1)]))
  have J2 : ∀ (w3 : Int32) (hw3 : w3 = (if (¬ ((255 : Int32) < p1)) then (1 : Int32) else 0)) (T4 : State) (L4 : List Loc) (X4 : Stand p l e ({ frames := 0, cells := 0, slots := 0, locals := 0 } : Room) s m #[(.int p1)] below meth c T4 L4 0 0) (e4 : T4.heap = h0) (N4 : Fr n0 L4), Run p e below s 0 0 (Q_rm4 Z p1 h0 n0) (T4.setTop (mkF m 12 #[.val (.int p1)] [(.int w3)])) := by
    intro w3 hw3 T4 L4 X4 e4 N4
    show Run p e below s 0 0 (Q_rm4 Z p1 h0 n0) (T4.setTop (mkF m 12 #[.val (.int p1)] [(.int w3)]))
    refine Run.retN (y := w3) X4 hx (t := .boolean) Bd.returns (by simp) (by rw [hw3]; exact nar_ite _) Bd.notSynchronized (hb hby d4_12) (by decide) (by decide) ?_
    show Q_rm4 Z p1 h0 n0 _ T4.heap _
    exact ⟨congrArg some (congrArg Value.int (show w3 = (F_rm4 p1) from (by subst hw3; unfold F_rm4; rfl))), N4, e4⟩
  by_cases hc5 : ((255 : Int32) < p1)
  · refine Run.go (fun _ k => XS.icmpYes X0.here hx rfl (pc0 := 4) (pc' := 11) rfl (hb hby d4_4) rfl (tlt hc5).2.2.1 (by decide) (by decide) k) ?_
    show Run p e below s 0 0 (Q_rm4 Z p1 h0 n0) (s₁.setTop (mkF m 11 #[.val (.int p1)] []))
    refine Run.go (fun _ k => XS.iconst X0.here hx rfl (hb hby d4_11) k) ?_
    show Run p e below s 0 0 (Q_rm4 Z p1 h0 n0) (s₁.setTop (mkF m 12 #[.val (.int p1)] [(.int (0 : Int32))]))
    exact J2 _ (if_neg (fun q => q hc5)).symm _ _ X0 e0 N0
  · refine Run.go (fun _ k => XS.icmpNo X0.here hx rfl (hb hby d4_4) rfl (flt hc5).2.2.1 k) ?_
    show Run p e below s 0 0 (Q_rm4 Z p1 h0 n0) (s₁.setTop (mkF m 7 #[.val (.int p1)] []))
    refine Run.go (fun _ k => XS.iconst X0.here hx rfl (hb hby d4_7) k) ?_
    show Run p e below s 0 0 (Q_rm4 Z p1 h0 n0) (s₁.setTop (mkF m 8 #[.val (.int p1)] [(.int (1 : Int32))]))
    refine Run.go (fun _ k => XS.goto X0.here hx rfl (pc0 := 8) (pc' := 12) rfl (hb hby d4_8) (by decide) (by decide) k) ?_
    show Run p e below s 0 0 (Q_rm4 Z p1 h0 n0) (s₁.setTop (mkF m 12 #[.val (.int p1)] [(.int (1 : Int32))]))
    exact J2 _ (if_pos hc5).symm _ _ X0 e0 N0
theorem d5_0 : decode jdk_43_method_46_code 0 = .ok (.iconst 1, 1) := by decide +kernel
theorem d5_1 : decode jdk_43_method_46_code 1 = .ok (.newarray .byte, 2) := by decide +kernel
theorem d5_3 : decode jdk_43_method_46_code 3 = .ok (.dup, 1) := by decide +kernel
theorem d5_4 : decode jdk_43_method_46_code 4 = .ok (.iconst 0, 1) := by decide +kernel
theorem d5_5 : decode jdk_43_method_46_code 5 = .ok (.iload_n 0, 1) := by decide +kernel
theorem d5_6 : decode jdk_43_method_46_code 6 = .ok (.i2b, 1) := by decide +kernel
theorem d5_7 : decode jdk_43_method_46_code 7 = .ok (.bastore, 1) := by decide +kernel
theorem d5_8 : decode jdk_43_method_46_code 8 = .ok (.areturn, 1) := by decide +kernel
def Q_rm5 (Z : State) (p1 : Int32) (h0 : Heap) (n0 : Nat) (v : Option Value) (h : Heap) (L : List Loc) : Prop := ∃ (b2 : Addr), v = some (.ref b2) ∧ Fr n0 L ∧ Keep h0 h [] ∧ h0.size ≤ b2 ∧ Ary Z h b2 .byte 1 (fun i => if i = 0 then (.int (p1.toInt8.toInt32)) else (fun _ => (.int (0 : Int32))) i)
theorem ef_rm5 (m : MethodId) (x0 : Int32) : entryFrame m #[(.int x0)] 1 = mkF m 0 #[.val (.int x0)] [] := by first | (simp [entryFrame, mkF, argsToLocals, Value.category]; done) | rfl
set_option maxRecDepth 65536 in
set_option maxHeartbeats 40000000 in
theorem rm5 (l : Launch) (Z : State) (a0 : Array Value) (hw : ∀ d ∈ tables_1, d.before a0 Z = true) (ws : List Jvm.Cond) (p1 : Int32) (h0 : Heap) (n0 : Nat) (Z0 : n0 ≤ h0.size)  :
    MetFree l (⟨"java/lang/StringLatin1", "toBytes", "(C)[B"⟩ : MethodName) (head1 (Jvm.Cond.code (⟨"java/lang/StringLatin1", "toBytes", "(C)[B"⟩ : MethodName) jdk_43_method_46_code 1 (some (.array .byte)) :: ws) ({ frames := 0, cells := 1, slots := 1, locals := 0 } : Room)) (fun a U => a = #[(.int p1)] ∧ Z.Warmed39 U.vm ∧ U.heap = h0) (fun _ _ _ _ _ => True) (fun _ U o U' => ∃ v L, o = .returned v ∧ Q_rm5 Z p1 h0 n0 v U'.heap L ∧ FrameEnd U o U' L ({ frames := 0, cells := 1, slots := 1, locals := 0 } : Room).cells ({ frames := 0, cells := 1, slots := 1, locals := 0 } : Room).slots) := by
  refine MetFree.of_bodySF (plainFor_of_name pn_0) hisR ?_
  intro p e s m args below meth c s₁ Bd hml0 hP hK
  obtain ⟨rfl, hZ, hh⟩ := hP
  have hx := Bd.exec
  have hby := Bd.bytes
  have hml : c.maxLocals = 1 := hml0
  have hown : s.vm.findClass "java/lang/StringLatin1" = some m.cls := findClass_of_methodNamed Bd.named
  have hnm := (name_of_methodNamed Bd.named Bd.method).1
  have X0 : Stand p l e ({ frames := 0, cells := 1, slots := 1, locals := 0 } : Room) s m #[(.int p1)] below meth c s₁ [] 0 0 := Stand.of_body Bd
  have e0 : s₁.heap = h0 := by rw [← hh, Bd.state]; rfl
  have N0 := Fr.nil n0
  show Run p e below s 1 1 (Q_rm5 Z p1 h0 n0) (s₁.setTop (entryFrame m #[(.int p1)] 1))
  refine Run.go (fun _ k => castTop (ef_rm5 m p1) k) ?_
  show Run p e below s 1 1 (Q_rm5 Z p1 h0 n0) (s₁.setTop (mkF m 0 #[.val (.int p1)] []))
  refine Run.go (fun _ k => XS.iconst X0.here hx rfl (hb hby d5_0) k) ?_
  show Run p e below s 1 1 (Q_rm5 Z p1 h0 n0) (s₁.setTop (mkF m 1 #[.val (.int p1)] [(.int (1 : Int32))]))
  obtain ⟨T2, h2, k2, X2, e2, E2, A2, st2⟩ := newP X0 hx hZ (hw _ (List.mem_of_getElem? (i := 15) rfl)) e0 (g := (mkF m 1 #[.val (.int p1)] [(.int (1 : Int32))])) rfl (hb hby d5_1) rfl (by decide) (cap := 1) (by decide) (by decide) (by decide) (by decide)
  obtain ⟨b2, g2⟩ : ∃ z, z = h0.size := ⟨_, rfl⟩
  rw [← g2] at A2 st2
  have g_b2 : n0 ≤ b2 := Nat.le_trans Z0 (Nat.le_of_eq g2.symm)
  have sz_b2 : h0.size ≤ b2 := Nat.le_trans (Keep.refl h0 []).1 (Nat.le_of_eq g2.symm)
  have Z2 : n0 ≤ h2.size := Nat.le_trans Z0 E2.1
  have K2 : Keep h0 h2 [] := (Keep.refl h0 []).ext E2
  have fx3 : Ary Z h2 b2 .byte 1 (fun _ => (.int (0 : Int32))) := Ary.new A2 (by decide)
  refine Run.go st2 ?_
  show Run p e below s 1 1 (Q_rm5 Z p1 h0 n0) (T2.setTop (mkF m 3 #[.val (.int p1)] [(.ref b2)]))
  refine Run.go (fun _ k => XS.dup X2.here hx rfl (hb hby d5_3) rfl rfl k) ?_
  show Run p e below s 1 1 (Q_rm5 Z p1 h0 n0) (T2.setTop (mkF m 4 #[.val (.int p1)] [(.ref b2), (.ref b2)]))
  refine Run.go (fun _ k => XS.iconst X2.here hx rfl (hb hby d5_4) k) ?_
  show Run p e below s 1 1 (Q_rm5 Z p1 h0 n0) (T2.setTop (mkF m 5 #[.val (.int p1)] [(.int (0 : Int32)), (.ref b2), (.ref b2)]))
  refine Run.go (fun _ k => XS.iloadN X2.here hx rfl (hb hby d5_5) rfl  k) ?_
  show Run p e below s 1 1 (Q_rm5 Z p1 h0 n0) (T2.setTop (mkF m 6 #[.val (.int p1)] [(.int p1), (.int (0 : Int32)), (.ref b2), (.ref b2)]))
  refine Run.go (fun _ k => XS.i2b X2.here hx rfl (hb hby d5_6) rfl k) ?_
  show Run p e below s 1 1 (Q_rm5 Z p1 h0 n0) (T2.setTop (mkF m 7 #[.val (.int p1)] [(.int (p1.toInt8.toInt32)), (.int (0 : Int32)), (.ref b2), (.ref b2)]))
  obtain ⟨T4, h4, X4, e4, W4, st4⟩ := ary_bset X2 hx hZ e2 fx3 (j := (0 : Int32)) (by decide) (by decide) (g := (mkF m 7 #[.val (.int p1)] [(.int (p1.toInt8.toInt32)), (.int (0 : Int32)), (.ref b2), (.ref b2)])) rfl rfl (hb hby d5_7) (y := (p1.toInt8.toInt32)) (b_idem _)
  have N4 := Fr.snoc X4 N0 g_b2
  have Z4 : n0 ≤ h4.size := Nat.le_trans Z2 (Keep.of_wr W4).1
  have K4 : Keep h0 h4 [] := K2.wr W4 (Or.inr sz_b2)
  obtain ⟨Lg4, Xg4, Ng4⟩ := Stand_gen X4 N4
  have fx5 : Ary Z h4 b2 .byte 1 (fun i => if i = 0 then (.int (p1.toInt8.toInt32)) else (fun _ => (.int (0 : Int32))) i) := fx3.same W4
  refine Run.go st4 ?_
  show Run p e below s 1 1 (Q_rm5 Z p1 h0 n0) (T4.setTop (mkF m 8 #[.val (.int p1)] [(.ref b2)]))
  refine Run.retA Xg4 hx rfl Bd.returns rfl Bd.notSynchronized (hb hby d5_8) (by decide) (by decide) ?_
  show Q_rm5 Z p1 h0 n0 _ T4.heap _
  rw [e4]
  exact ⟨b2, rfl, Ng4, K4, sz_b2, fx5⟩
theorem d6_0 : decode jdk_42_method_151_code 0 = .ok (.aload_n 0, 1) := by decide +kernel
theorem d6_1 : decode jdk_42_method_151_code 1 = .ok (.invokespecial 1, 3) := by decide +kernel
theorem d6_4 : decode jdk_42_method_151_code 4 = .ok (.aload_n 0, 1) := by decide +kernel
theorem d6_5 : decode jdk_42_method_151_code 5 = .ok (.aload_n 1, 1) := by decide +kernel
theorem d6_6 : decode jdk_42_method_151_code 6 = .ok (.putfield 9, 3) := by decide +kernel
theorem d6_9 : decode jdk_42_method_151_code 9 = .ok (.aload_n 0, 1) := by decide +kernel
theorem d6_10 : decode jdk_42_method_151_code 10 = .ok (.iload_n 2, 1) := by decide +kernel
theorem d6_11 : decode jdk_42_method_151_code 11 = .ok (.putfield 15, 3) := by decide +kernel
theorem d6_14 : decode jdk_42_method_151_code 14 = .ok (.return_, 1) := by decide +kernel
def Q_rm6 (Z : State) (a1 : Addr) (a2 : Addr) (u_value_a1 : Value) (u_coder_a1 : Value) (h0 : Heap) (n0 : Nat) (v : Option Value) (h : Heap) (L : List Loc) : Prop := v = none ∧ Fr n0 L ∧ Keep h0 h [a1] ∧ Exa Z h a1 "java/lang/String" ∧ Fld Z h a1 "java/lang/String" "value" "[B" (.ref a2) ∧ Fld Z h a1 "java/lang/String" "coder" "B" (.int (0 : Int32))
theorem ef_rm6 (m : MethodId) (x0 : Addr) (x1 : Addr) : entryFrame m #[(.ref x0), (.ref x1), (.int (0 : Int32))] 3 = mkF m 0 #[.val (.ref x0), .val (.ref x1), .val (.int (0 : Int32))] [] := by first | (simp [entryFrame, mkF, argsToLocals, Value.category]; done) | rfl
theorem pn_1 : plainName "java/lang/String" = true := by first | (simp [plainName, overriddenIn]; done) | decide +kernel
set_option maxRecDepth 65536 in
set_option maxHeartbeats 40000000 in
theorem rm6 (l : Launch) (Z : State) (a0 : Array Value) (hw : ∀ d ∈ tables_1, d.before a0 Z = true) (ws : List Jvm.Cond) (a1 : Addr) (a2 : Addr) (u_value_a1 : Value) (u_coder_a1 : Value) (h0 : Heap) (n0 : Nat) (Z0 : n0 ≤ h0.size) (E_a1 : Exa Z h0 a1 "java/lang/String") (F_value_a1 : Fld Z h0 a1 "java/lang/String" "value" "[B" u_value_a1) (g_a1 : n0 ≤ a1) (F_coder_a1 : Fld Z h0 a1 "java/lang/String" "coder" "B" u_coder_a1) :
    MetFree l (⟨"java/lang/String", "<init>", "([BB)V"⟩ : MethodName) (head1 (Jvm.Cond.code (⟨"java/lang/String", "<init>", "([BB)V"⟩ : MethodName) jdk_42_method_151_code 3 none :: ws) ({ frames := 1, cells := 0, slots := 0, locals := 12 } : Room)) (fun a U => a = #[(.ref a1), (.ref a2), (.int (0 : Int32))] ∧ Z.Warmed39 U.vm ∧ U.heap = h0) (fun _ _ _ _ _ => True) (fun _ U o U' => ∃ v L, o = .returned v ∧ Q_rm6 Z a1 a2 u_value_a1 u_coder_a1 h0 n0 v U'.heap L ∧ FrameEnd U o U' L ({ frames := 1, cells := 0, slots := 0, locals := 12 } : Room).cells ({ frames := 1, cells := 0, slots := 0, locals := 12 } : Room).slots) := by
  refine MetFree.of_bodySF (plainFor_of_name pn_1) hisR ?_
  intro p e s m args below meth c s₁ Bd hml0 hP hK
  obtain ⟨rfl, hZ, hh⟩ := hP
  have hx := Bd.exec
  have hby := Bd.bytes
  have hml : c.maxLocals = 3 := hml0
  have hown : s.vm.findClass "java/lang/String" = some m.cls := findClass_of_methodNamed Bd.named
  have hnm := (name_of_methodNamed Bd.named Bd.method).1
  have X0 : Stand p l e ({ frames := 1, cells := 0, slots := 0, locals := 12 } : Room) s m #[(.ref a1), (.ref a2), (.int (0 : Int32))] below meth c s₁ [] 0 0 := Stand.of_body Bd
  have e0 : s₁.heap = h0 := by rw [← hh, Bd.state]; rfl
  have N0 := Fr.nil n0
  show Run p e below s 0 0 (Q_rm6 Z a1 a2 u_value_a1 u_coder_a1 h0 n0) (s₁.setTop (entryFrame m #[(.ref a1), (.ref a2), (.int (0 : Int32))] 3))
  refine Run.go (fun _ k => castTop (ef_rm6 m a1 a2) k) ?_
  show Run p e below s 0 0 (Q_rm6 Z a1 a2 u_value_a1 u_coder_a1 h0 n0) (s₁.setTop (mkF m 0 #[.val (.ref a1), .val (.ref a2), .val (.int (0 : Int32))] []))
  refine Run.go (fun _ k => XS.aloadN X0.here hx rfl (hb hby d6_0) rfl rfl k) ?_
  show Run p e below s 0 0 (Q_rm6 Z a1 a2 u_value_a1 u_coder_a1 h0 n0) (s₁.setTop (mkF m 1 #[.val (.ref a1), .val (.ref a2), .val (.int (0 : Int32))] [(.ref a1)]))
  obtain ⟨T3, X3, e3, st3⟩ := initO X0 hx hZ hown (hw _ (List.mem_of_getElem? (i := 36) rfl)) (hw _ (List.mem_of_getElem? (i := 37) rfl)) (hw _ (List.mem_of_getElem? (i := 38) rfl)) e0 (g := (mkF m 1 #[.val (.ref a1), .val (.ref a2), .val (.int (0 : Int32))] [(.ref a1)])) rfl (by rw [hml]; rfl) rfl (hb hby d6_1) (by decide) (W := 0) (by show 2 * 0 + _ ≤ _; exact Nat.le_of_eq rfl) (by decide)
  refine Run.go st3 ?_
  show Run p e below s 0 0 (Q_rm6 Z a1 a2 u_value_a1 u_coder_a1 h0 n0) (T3.setTop (mkF m 4 #[.val (.ref a1), .val (.ref a2), .val (.int (0 : Int32))] []))
  refine Run.go (fun _ k => XS.aloadN X3.here hx rfl (hb hby d6_4) rfl rfl k) ?_
  show Run p e below s 0 0 (Q_rm6 Z a1 a2 u_value_a1 u_coder_a1 h0 n0) (T3.setTop (mkF m 5 #[.val (.ref a1), .val (.ref a2), .val (.int (0 : Int32))] [(.ref a1)]))
  refine Run.go (fun _ k => XS.aloadN X3.here hx rfl (hb hby d6_5) rfl rfl k) ?_
  show Run p e below s 0 0 (Q_rm6 Z a1 a2 u_value_a1 u_coder_a1 h0 n0) (T3.setTop (mkF m 6 #[.val (.ref a1), .val (.ref a2), .val (.int (0 : Int32))] [(.ref a2), (.ref a1)]))
  obtain ⟨T4, h4, X4, e4, W4, st4⟩ := putF X3 hx hZ hown (host := "") (Or.inl (hw _ (List.mem_of_getElem? (i := 39) rfl))) Via.refl e3 F_value_a1 E_a1 (Or.inr ⟨(hw _ (List.mem_of_getElem? (i := 16) rfl)), rfl, hnm⟩) (hw _ (List.mem_of_getElem? (i := 14) rfl)) (ty := (.array .byte)) (by decide) rfl rfl (g := (mkF m 6 #[.val (.ref a1), .val (.ref a2), .val (.int (0 : Int32))] [(.ref a2), (.ref a1)])) rfl rfl (hb hby d6_6)
  have N4 := Fr.snoc X4 N0 g_a1
  have Z4 : n0 ≤ h4.size := Nat.le_trans Z0 (Keep.of_wr W4).1
  have K4 : Keep h0 h4 [a1] := (Keep.refl h0 [a1]).wr W4 (Or.inl (List.mem_of_getElem? (i := 0) rfl))
  obtain ⟨Lg4, Xg4, Ng4⟩ := Stand_gen X4 N4
  have fx5 := F_value_a1.same W4
  refine Run.go st4 ?_
  show Run p e below s 0 0 (Q_rm6 Z a1 a2 u_value_a1 u_coder_a1 h0 n0) (T4.setTop (mkF m 9 #[.val (.ref a1), .val (.ref a2), .val (.int (0 : Int32))] []))
  refine Run.go (fun _ k => XS.aloadN Xg4.here hx rfl (hb hby d6_9) rfl rfl k) ?_
  show Run p e below s 0 0 (Q_rm6 Z a1 a2 u_value_a1 u_coder_a1 h0 n0) (T4.setTop (mkF m 10 #[.val (.ref a1), .val (.ref a2), .val (.int (0 : Int32))] [(.ref a1)]))
  refine Run.go (fun _ k => XS.iloadN Xg4.here hx rfl (hb hby d6_10) rfl  k) ?_
  show Run p e below s 0 0 (Q_rm6 Z a1 a2 u_value_a1 u_coder_a1 h0 n0) (T4.setTop (mkF m 11 #[.val (.ref a1), .val (.ref a2), .val (.int (0 : Int32))] [(.int (0 : Int32)), (.ref a1)]))
  have fx6 := (E_a1.wr W4)
  have fx7 := (F_coder_a1.other W4 (Or.inr (slot_ne (Or.inr (hw _ (List.mem_of_getElem? (i := 17) rfl))) (Or.inr (hw _ (List.mem_of_getElem? (i := 16) rfl))) (by decide) (t := .byte) (t' := (.array .byte)) (by decide) (by decide))))
  obtain ⟨T8, h8, X8, e8, W8, st8⟩ := putFN Xg4 hx hZ hown (hw _ (List.mem_of_getElem? (i := 40) rfl)) Via.refl e4 fx7 fx6 (Or.inr ⟨(hw _ (List.mem_of_getElem? (i := 17) rfl)), rfl, hnm⟩) (hw _ (List.mem_of_getElem? (i := 14) rfl)) (ty := .byte) (v' := (.int (0 : Int32))) (by decide) rfl (by decide) (g := (mkF m 11 #[.val (.ref a1), .val (.ref a2), .val (.int (0 : Int32))] [(.int (0 : Int32)), (.ref a1)])) rfl rfl (hb hby d6_11)
  have N8 := Fr.snoc X8 Ng4 g_a1
  have Z8 : n0 ≤ h8.size := Nat.le_trans Z4 (Keep.of_wr W8).1
  have K8 : Keep h0 h8 [a1] := K4.wr W8 (Or.inl (List.mem_of_getElem? (i := 0) rfl))
  obtain ⟨Lg8, Xg8, Ng8⟩ := Stand_gen X8 N8
  have fx9 := fx7.same W8
  refine Run.go st8 ?_
  show Run p e below s 0 0 (Q_rm6 Z a1 a2 u_value_a1 u_coder_a1 h0 n0) (T8.setTop (mkF m 14 #[.val (.ref a1), .val (.ref a2), .val (.int (0 : Int32))] []))
  refine Run.ret0 Xg8 hx Bd.returns Bd.notSynchronized (hb hby d6_14) (by decide) (by decide) ?_
  show Q_rm6 Z a1 a2 u_value_a1 u_coder_a1 h0 n0 _ T8.heap _
  have fx10 := (fx6.wr W8)
  have fx11 := (fx5.other W8 (Or.inr (slot_ne (Or.inr (hw _ (List.mem_of_getElem? (i := 16) rfl))) (Or.inr (hw _ (List.mem_of_getElem? (i := 17) rfl))) (by decide) (t := (.array .byte)) (t' := .byte) (by decide) (by decide))))
  rw [e8]
  exact ⟨rfl, Ng8, K8, fx10, fx11, fx9⟩
theorem own_enc (c : Int32) (h : ¬ ((255 : Int32) < c)) : ¬ ((F_rm4 c) = (0 : Int32)) := by
  unfold F_rm4; simp [h]
theorem d3_0 : decode jdk_42_method_139_code 0 = .ok (.getstatic 38, 3) := by decide +kernel
theorem d3_3 : decode jdk_42_method_139_code 3 = .ok (.ifCond .eq 23, 3) := by decide +kernel
theorem d3_6 : decode jdk_42_method_139_code 6 = .ok (.iload_n 0, 1) := by decide +kernel
theorem d3_7 : decode jdk_42_method_139_code 7 = .ok (.invokestatic 1015, 3) := by decide +kernel
theorem pd_0 : parseMethodDescriptor "(C)Z" = some ⟨[.char], some .boolean⟩ := by decide +kernel
theorem d3_10 : decode jdk_42_method_139_code 10 = .ok (.ifCond .eq 16, 3) := by decide +kernel
theorem d3_13 : decode jdk_42_method_139_code 13 = .ok (.new 10, 3) := by decide +kernel
theorem d3_16 : decode jdk_42_method_139_code 16 = .ok (.dup, 1) := by decide +kernel
theorem d3_17 : decode jdk_42_method_139_code 17 = .ok (.iload_n 0, 1) := by decide +kernel
theorem d3_18 : decode jdk_42_method_139_code 18 = .ok (.invokestatic 1018, 3) := by decide +kernel
theorem pd_1 : parseMethodDescriptor "(C)[B" = some ⟨[.char], some (.array .byte)⟩ := by decide +kernel
theorem d3_21 : decode jdk_42_method_139_code 21 = .ok (.iconst 0, 1) := by decide +kernel
theorem d3_22 : decode jdk_42_method_139_code 22 = .ok (.invokespecial 209, 3) := by decide +kernel
theorem pd_2 : parseMethodDescriptor "([BB)V" = some ⟨[(.array .byte), .byte], none⟩ := by decide +kernel
theorem d3_25 : decode jdk_42_method_139_code 25 = .ok (.areturn, 1) := by decide +kernel
def Q_rm3 (Z : State) (p1 : Int32) (cs : Int32) (h0 : Heap) (n0 : Nat) (v : Option Value) (h : Heap) (L : List Loc) : Prop := ∃ (b4 : Addr) (b8 : Addr), v = some (.ref b4) ∧ Fr n0 L ∧ Keep h0 h [] ∧ h0.size ≤ b4 ∧ h0.size ≤ b8 ∧ Exa Z h b4 "java/lang/String" ∧ Fld Z h b4 "java/lang/String" "value" "[B" (.ref b8) ∧ Fld Z h b4 "java/lang/String" "coder" "B" (.int (0 : Int32)) ∧ Ary Z h b8 .byte 1 (fun i => if i = 0 then (.int (p1.toInt8.toInt32)) else (fun _ => (.int (0 : Int32))) i)
theorem ef_rm3 (m : MethodId) (x0 : Int32) : entryFrame m #[(.int x0)] 1 = mkF m 0 #[.val (.int x0)] [] := by first | (simp [entryFrame, mkF, argsToLocals, Value.category]; done) | rfl
set_option maxRecDepth 65536 in
set_option maxHeartbeats 40000000 in
theorem rm3 (l : Launch) (Z : State) (a0 : Array Value) (hw : ∀ d ∈ tables_1, d.before a0 Z = true) (ws : List Jvm.Cond) (p1 : Int32) (cs : Int32) (h0 : Heap) (n0 : Nat) (Z0 : n0 ≤ h0.size) (S_String_COMPACT_STRINGS : Sta Z h0 "java/lang/String" "COMPACT_STRINGS" "Z" (.int cs)) (hcs : ¬ (cs = (0 : Int32))) (hch : ¬ ((255 : Int32) < p1)) :
    MetFree l (⟨"java/lang/String", "valueOf", "(C)Ljava/lang/String;"⟩ : MethodName) (head1 (Jvm.Cond.code (⟨"java/lang/String", "valueOf", "(C)Ljava/lang/String;"⟩ : MethodName) jdk_42_method_139_code 1 (some (.object "java/lang/String")) :: ws) ({ frames := 2, cells := 2, slots := 5, locals := 27 } : Room)) (fun a U => a = #[(.int p1)] ∧ Z.Warmed39 U.vm ∧ U.heap = h0) (fun _ _ _ _ _ => True) (fun _ U o U' => ∃ v L, o = .returned v ∧ Q_rm3 Z p1 cs h0 n0 v U'.heap L ∧ FrameEnd U o U' L ({ frames := 2, cells := 2, slots := 5, locals := 27 } : Room).cells ({ frames := 2, cells := 2, slots := 5, locals := 27 } : Room).slots) := by
  refine MetFree.of_bodySF (plainFor_of_name pn_1) hisR ?_
  intro p e s m args below meth c s₁ Bd hml0 hP hK
  obtain ⟨rfl, hZ, hh⟩ := hP
  have hx := Bd.exec
  have hby := Bd.bytes
  have hml : c.maxLocals = 1 := hml0
  have hown : s.vm.findClass "java/lang/String" = some m.cls := findClass_of_methodNamed Bd.named
  have hnm := (name_of_methodNamed Bd.named Bd.method).1
  have X0 : Stand p l e ({ frames := 2, cells := 2, slots := 5, locals := 27 } : Room) s m #[(.int p1)] below meth c s₁ [] 0 0 := Stand.of_body Bd
  have e0 : s₁.heap = h0 := by rw [← hh, Bd.state]; rfl
  have N0 := Fr.nil n0
  show Run p e below s 2 5 (Q_rm3 Z p1 cs h0 n0) (s₁.setTop (entryFrame m #[(.int p1)] 1))
  refine Run.go (fun _ k => castTop (ef_rm3 m p1) k) ?_
  show Run p e below s 2 5 (Q_rm3 Z p1 cs h0 n0) (s₁.setTop (mkF m 0 #[.val (.int p1)] []))
  obtain ⟨T2, X2, e2, st2⟩ := getS2 X0 hx hZ hown (host := "") (Or.inl (hw _ (List.mem_of_getElem? (i := 23) rfl))) Via.refl e0 S_String_COMPACT_STRINGS (g := (mkF m 0 #[.val (.int p1)] [])) rfl (hb hby d3_0)
  refine Run.go st2 ?_
  show Run p e below s 2 5 (Q_rm3 Z p1 cs h0 n0) (T2.setTop (mkF m 3 #[.val (.int p1)] [(.int cs)]))
  refine Run.go (fun _ k => XS.ifNo X2.here hx rfl (hb hby d3_3) rfl ((if0 _ _).trans (feq hcs).1) k) ?_
  show Run p e below s 2 5 (Q_rm3 Z p1 cs h0 n0) (T2.setTop (mkF m 6 #[.val (.int p1)] []))
  refine Run.go (fun _ k => XS.iloadN X2.here hx rfl (hb hby d3_6) rfl  k) ?_
  show Run p e below s 2 5 (Q_rm3 Z p1 cs h0 n0) (T2.setTop (mkF m 7 #[.val (.int p1)] [(.int p1)]))
  obtain ⟨_, _, ⟨T3, L3, k3, n3⟩, -, X3, ⟨Lc3, hQ3, l3, y3, z3⟩, st3⟩ := Jvm.LawKit.callS X2 hx (y := (⟨"java/lang/StringLatin1", "canEncode", "(C)Z"⟩ : MethodName)) hown (mvT hZ (hw _ (List.mem_of_getElem? (i := 24) rfl))) (mvT hZ (hw _ (List.mem_of_getElem? (i := 25) rfl))) (mvT hZ (hw _ (List.mem_of_getElem? (i := 26) rfl))) (mvT hZ (hw _ (List.mem_of_getElem? (i := 27) rfl))) (by decide) (backOf (W := 0) (rm4 l Z a0 hw [] p1 h0 n0 Z0 ) hZ (hw _ (List.mem_of_getElem? (i := 27) rfl)) (hw _ (List.mem_of_getElem? (i := 26) rfl)) (by decide) (by decide)) (g := (mkF m 7 #[.val (.int p1)] [(.int p1)])) rfl (by rw [hml]; rfl) (argsL := [(.int p1)]) (rest := []) (lenOf pd_0 rfl) rfl (by show 2 * 0 + _ ≤ _; exact Nat.le_of_eq rfl) (hb hby d3_7) (fun _ _ => ⟨rfl, e2, (by decide : 0 + 0 ≤ _), (by decide : 0 + 0 ≤ _)⟩)
  dsimp only [Pt.U, Pt.locs, Pt.cells, Pt.slots] at X3 l3 y3 z3 st3 hQ3
  subst l3 y3 z3
  obtain ⟨rfl, N3q, e3q⟩ := hQ3
  have N3 := Fr.app N0 N3q
  obtain ⟨Lg3, Xg3, Ng3⟩ := Stand_gen X3 N3
  refine Run.go st3 ?_
  show Run p e below s 2 5 (Q_rm3 Z p1 cs h0 n0) (T3.setTop (mkF m 10 #[.val (.int p1)] [(.int (F_rm4 p1))]))
  refine Run.go (fun _ k => XS.ifNo Xg3.here hx rfl (hb hby d3_10) rfl ((if0 _ _).trans (feq (own_enc _ hch)).1) k) ?_
  show Run p e below s 2 5 (Q_rm3 Z p1 cs h0 n0) (T3.setTop (mkF m 13 #[.val (.int p1)] []))
  obtain ⟨T4, h4, X4, e4, E4, A4, D4, -, st4⟩ := newO Xg3 hx hZ hown (hw _ (List.mem_of_getElem? (i := 28) rfl)) (hw _ (List.mem_of_getElem? (i := 14) rfl)) (hw _ (List.mem_of_getElem? (i := 13) rfl)) e3q (g := (mkF m 13 #[.val (.int p1)] [])) rfl (hb hby d3_13) (by decide) (by decide)
  obtain ⟨b4, g4⟩ : ∃ z, z = h0.size := ⟨_, rfl⟩
  rw [← g4] at A4 D4 st4
  have g_b4 : n0 ≤ b4 := Nat.le_trans Z0 (Nat.le_of_eq g4.symm)
  have sz_b4 : h0.size ≤ b4 := Nat.le_trans (Keep.refl h0 []).1 (Nat.le_of_eq g4.symm)
  have Z4 : n0 ≤ h4.size := Nat.le_trans Z0 E4.1
  have K4 : Keep h0 h4 [] := (Keep.refl h0 []).ext E4
  have fx5 : Fld Z h4 b4 "java/lang/String" "value" "[B" .null := D4 (Or.inr (hw _ (List.mem_of_getElem? (i := 16) rfl))) (ty := (.array .byte)) (by decide)
  have fx6 : Fld Z h4 b4 "java/lang/String" "coder" "B" (.int (0 : Int32)) := D4 (Or.inr (hw _ (List.mem_of_getElem? (i := 17) rfl))) (ty := .byte) (by decide)
  refine Run.go st4 ?_
  show Run p e below s 2 5 (Q_rm3 Z p1 cs h0 n0) (T4.setTop (mkF m 16 #[.val (.int p1)] [(.ref b4)]))
  refine Run.go (fun _ k => XS.dup X4.here hx rfl (hb hby d3_16) rfl rfl k) ?_
  show Run p e below s 2 5 (Q_rm3 Z p1 cs h0 n0) (T4.setTop (mkF m 17 #[.val (.int p1)] [(.ref b4), (.ref b4)]))
  refine Run.go (fun _ k => XS.iloadN X4.here hx rfl (hb hby d3_17) rfl  k) ?_
  show Run p e below s 2 5 (Q_rm3 Z p1 cs h0 n0) (T4.setTop (mkF m 18 #[.val (.int p1)] [(.int p1), (.ref b4), (.ref b4)]))
  obtain ⟨_, _, ⟨T7, L7, k7, n7⟩, -, X7, ⟨Lc7, hQ7, l7, y7, z7⟩, st7⟩ := Jvm.LawKit.callS X4 hx (y := (⟨"java/lang/StringLatin1", "toBytes", "(C)[B"⟩ : MethodName)) hown (mvT hZ (hw _ (List.mem_of_getElem? (i := 29) rfl))) (mvT hZ (hw _ (List.mem_of_getElem? (i := 30) rfl))) (mvT hZ (hw _ (List.mem_of_getElem? (i := 26) rfl))) (mvT hZ (hw _ (List.mem_of_getElem? (i := 31) rfl))) (by decide) (backOf (W := 2) (rm5 l Z a0 hw [] p1 h4 n0 Z4 ) hZ (hw _ (List.mem_of_getElem? (i := 31) rfl)) (hw _ (List.mem_of_getElem? (i := 26) rfl)) (by decide) (by decide)) (g := (mkF m 18 #[.val (.int p1)] [(.int p1), (.ref b4), (.ref b4)])) rfl (by rw [hml]; rfl) (argsL := [(.int p1)]) (rest := [(.ref b4), (.ref b4)]) (lenOf pd_1 rfl) rfl (by show 2 * 0 + _ ≤ _; exact Nat.le_of_eq rfl) (hb hby d3_18) (fun _ _ => ⟨rfl, e4, (by decide : 1 + 1 ≤ _), (by decide : 4 + 1 ≤ _)⟩)
  dsimp only [Pt.U, Pt.locs, Pt.cells, Pt.slots] at X7 l7 y7 z7 st7 hQ7
  subst l7 y7 z7
  obtain ⟨b8, rfl, N7q, K7q, s_b8, fq7_0⟩ := hQ7
  have N7 := Fr.app Ng3 N7q
  have K7 : Keep h0 T7.heap [] := K4.trans K7q all0
  have g_b8 : n0 ≤ b8 := Nat.le_trans Z4 s_b8
  have sz_b8 : h0.size ≤ b8 := Nat.le_trans K4.1 s_b8
  have ne_b4_b8 : b4 ≠ b8 := Nat.ne_of_lt (Nat.lt_of_lt_of_le A4.lt s_b8)
  have Z7 : n0 ≤ T7.heap.size := Nat.le_trans Z4 K7q.1
  obtain ⟨Lg7, Xg7, Ng7⟩ := Stand_gen X7 N7
  refine Run.go st7 ?_
  show Run p e below s 2 5 (Q_rm3 Z p1 cs h0 n0) (T7.setTop (mkF m 21 #[.val (.int p1)] [(.ref b8), (.ref b4), (.ref b4)]))
  refine Run.go (fun _ k => XS.iconst Xg7.here hx rfl (hb hby d3_21) k) ?_
  show Run p e below s 2 5 (Q_rm3 Z p1 cs h0 n0) (T7.setTop (mkF m 22 #[.val (.int p1)] [(.int (0 : Int32)), (.ref b8), (.ref b4), (.ref b4)]))
  have fx10 := (A4.keep K7q)
  have fx11 := (fx5.keep K7q nin0)
  have fx12 := (fx6.keep K7q nin0)
  obtain ⟨_, _, ⟨T9, L9, k9, n9⟩, -, X9, ⟨Lc9, hQ9, l9, y9, z9⟩, st9⟩ := Xg7.specialBack hx (y := (⟨"java/lang/String", "<init>", "([BB)V"⟩ : MethodName)) rfl hown (mvT hZ (hw _ (List.mem_of_getElem? (i := 32) rfl))) (mvT hZ (hw _ (List.mem_of_getElem? (i := 33) rfl))) (mvT hZ (hw _ (List.mem_of_getElem? (i := 35) rfl))) (by decide) (backOf (W := 1) (rm6 l Z a0 hw [] b4 b8 .null (.int (0 : Int32)) T7.heap n0 Z7 fx10 fx11 g_b4 fx12) hZ (hw _ (List.mem_of_getElem? (i := 35) rfl)) (hw _ (List.mem_of_getElem? (i := 13) rfl)) (by decide) (by decide)) (g := (mkF m 22 #[.val (.int p1)] [(.int (0 : Int32)), (.ref b8), (.ref b4), (.ref b4)])) rfl (by rw [hml]; rfl) (Steps.refl _) (a := b4) (argsL := [(.ref b8), (.int (0 : Int32))]) (rest := [(.ref b4)]) (lenOf pd_2 rfl) rfl (by show 2 * 0 + _ ≤ _; exact Nat.le_of_eq rfl) (hb hby d3_22) (fun _ _ => ⟨rfl, rfl, (by decide : 2 + 0 ≤ _), (by decide : 5 + 0 ≤ _)⟩)
  dsimp only [Pt.U, Pt.locs, Pt.cells, Pt.slots] at X9 l9 y9 z9 st9 hQ9
  subst l9 y9 z9
  obtain ⟨rfl, N9q, K9q, fq9_0, fq9_1, fq9_2⟩ := hQ9
  have N9 := Fr.app Ng7 N9q
  have K9 : Keep h0 T9.heap [] := K7.trans K9q (allS (Or.inr sz_b4) all0)
  have Z9 : n0 ≤ T9.heap.size := Nat.le_trans Z7 K9q.1
  obtain ⟨Lg9, Xg9, Ng9⟩ := Stand_gen X9 N9
  refine Run.tr st9 ?_
  show Run p e below s 2 5 (Q_rm3 Z p1 cs h0 n0) (T9.setTop (mkF m 25 #[.val (.int p1)] [(.ref b4)]))
  refine Run.retA Xg9 hx rfl Bd.returns rfl Bd.notSynchronized (hb hby d3_25) (by decide) (by decide) ?_
  show Q_rm3 Z p1 cs h0 n0 _ T9.heap _
  have fx13 := (fq7_0.keep K9q (ninS (Ne.symm ne_b4_b8) nin0))
  exact ⟨b4, b8, rfl, Ng9, K9, sz_b4, sz_b8, fq9_0, fq9_1, fq9_2, fx13⟩
def own_ln (p : Int32) : Int32 := ((p.toUInt32 >>> ((16 : Int32) &&& 31).toUInt32).toInt32)
def own_c1 (p : Int32) : Int32 := (((p.toUInt32 >>> ((8 : Int32) &&& 31).toUInt32).toInt32) &&& (255 : Int32))
def own_c2 (p : Int32) : Int32 := (p &&& (255 : Int32))
def own_cs (p : Int32) : List Int32 := if own_ln p = 0 then [] else if own_ln p = 1 then [own_c1 p] else [own_c1 p, own_c2 p]
theorem own_ch (x : Int32) : ¬ ((255 : Int32) < (x &&& (255 : Int32))) := by
  rw [Int32.lt_iff_toInt_lt]
  have h := c_and x 255 (by decide)
  have e : (255 : Int32).toInt = 255 := rfl
  omega
theorem own_ch0 (x : Int32) : ¬ ((x &&& (255 : Int32)) < 0) := by
  rw [Int32.lt_iff_toInt_lt]
  have h := c_and x 255 (by decide)
  have e : (0 : Int32).toInt = 0 := rfl
  omega
theorem own_ch2 (x : Int32) : nar .char ((x &&& (255 : Int32)).toUInt32.toUInt16.toUInt32.toInt32) = x &&& (255 : Int32) := by rw [i2c_mask]; exact i2c_mask x
theorem own_fit (x : Int32) : fits .char (.int (x &&& (255 : Int32))) = true := by rw [← own_ch2]; exact fits_nar_char _
theorem own_arv {Z : State} {h : Heap} {a : Addr} {f : Nat → Value} {x y : Int32} (A : Ary Z h a .char 2 f) (h0 : f 0 = .int (x &&& (255 : Int32))) (h1 : f 1 = .int (y &&& (255 : Int32))) : ∃ k, Arv Z h a k .char 2 (([x &&& (255 : Int32), y &&& (255 : Int32)] : List Int32).map Value.int) (.int 0) := by
  obtain ⟨c, A, hs, hf⟩ := A
  refine ⟨c.cls, c, A, rfl, by rw [hs]; decide, by decide, fun k hk => ?_, fun i hi => ?_⟩
  · rw [hs] at hk
    match k, hk with
    | 0, _ => rw [hf 0 (by decide), h0]; rfl
    | 1, _ => rw [hf 1 (by decide), h1]; rfl
  · rw [hs] at hi
    match i, hi with
    | 0, _ => exact own_fit x
    | 1, _ => exact own_fit y
theorem own_arv1 {Z : State} {h : Heap} {a : Addr} {f : Nat → Value} {x : Int32} (A : Ary Z h a .byte 1 f) (h0 : f 0 = .int (x.toInt8.toInt32)) : ∃ k, Arv Z h a k .byte (Int32.ofNat 1) [Value.int x.toInt8.toInt32] (.int 0) := by
  obtain ⟨c, A, hs, hf⟩ := A
  refine ⟨c.cls, c, A, rfl, by rw [hs]; decide, by decide, fun k hk => ?_, fun i hi => ?_⟩
  · rw [hs] at hk
    match k, hk with
    | 0, _ => rw [hf 0 (by decide), h0]; rfl
  · rw [hs] at hi
    match i, hi with
    | 0, _ => exact fits_nar_byte x
theorem own_words : ∀ d ∈ StrChars.Road.words, d ∈ tables_1 := by decide +kernel
theorem own_s1 {Z : State} {h : Heap} {x t : Addr} {p : Int32} {f : Nat → Value} (hl : own_ln p = 1) (E : Exa Z h x "java/lang/String") (V : Fld Z h x "java/lang/String" "value" "[B" (.ref t)) (C : Fld Z h x "java/lang/String" "coder" "B" (.int 0)) (A : Ary Z h t .byte 1 f) (h0 : f 0 = .int (((own_c1 p).toUInt32.toUInt16.toUInt32.toInt32).toInt8.toInt32)) : SStr Z h x (own_cs p) := by
  rw [own_c1, i2c_mask] at h0
  obtain ⟨k, K⟩ := own_arv1 A h0
  rw [own_cs, if_neg (by rw [hl]; decide), if_pos hl]
  refine ⟨t, k, E, V, C, K, fun c hc => ?_, by simp⟩
  simp only [List.mem_singleton] at hc
  subst hc; exact ⟨own_ch0 _, own_ch _⟩
theorem own_s2 {Z : State} {h : Heap} {x : Addr} {p : Int32} (n0 : Nat) (H : Heap) (h0 : ¬ own_ln p = 0) (h1 : ¬ own_ln p = 1) (E : Exa Z h x "java/lang/String") (r : Fld Z h x "java/lang/String" "coder" "B" (.int 0) ∧ ∃ (t : Addr) (kb : ClassId), n0 ≤ t ∧ H.size ≤ t ∧ ¬ t = x ∧ Fld Z h x "java/lang/String" "value" "[B" (.ref t) ∧ Arv Z h t kb .byte 2 (([(own_c1 p).toInt8.toInt32, (own_c2 p).toInt8.toInt32] : List Int32).map Value.int) (.int 0)) : SStr Z h x (own_cs p) := by
  obtain ⟨C, t, kb, -, -, -, V, K⟩ := r
  rw [own_cs, if_neg h0, if_neg h1]
  refine ⟨t, kb, E, V, C, K, fun c hc => ?_, by simp⟩
  simp only [List.mem_cons, List.not_mem_nil, or_false] at hc
  rcases hc with rfl | rfl <;> exact ⟨own_ch0 _, own_ch _⟩
theorem d2_0 : decode method_3_code 0 = .ok (.iload_n 0, 1) := by decide +kernel
theorem d2_1 : decode method_3_code 1 = .ok (.bipush 16, 2) := by decide +kernel
theorem d2_3 : decode method_3_code 3 = .ok (.iushr, 1) := by decide +kernel
theorem d2_4 : decode method_3_code 4 = .ok (.istore_n 1, 1) := by decide +kernel
theorem d2_5 : decode method_3_code 5 = .ok (.iload_n 0, 1) := by decide +kernel
theorem d2_6 : decode method_3_code 6 = .ok (.bipush 8, 2) := by decide +kernel
theorem d2_8 : decode method_3_code 8 = .ok (.iushr, 1) := by decide +kernel
theorem d2_9 : decode method_3_code 9 = .ok (.sipush 255, 3) := by decide +kernel
theorem d2_12 : decode method_3_code 12 = .ok (.iand, 1) := by decide +kernel
theorem d2_13 : decode method_3_code 13 = .ok (.i2c, 1) := by decide +kernel
theorem d2_14 : decode method_3_code 14 = .ok (.istore_n 2, 1) := by decide +kernel
theorem d2_15 : decode method_3_code 15 = .ok (.iload_n 0, 1) := by decide +kernel
theorem d2_16 : decode method_3_code 16 = .ok (.sipush 255, 3) := by decide +kernel
theorem d2_19 : decode method_3_code 19 = .ok (.iand, 1) := by decide +kernel
theorem d2_20 : decode method_3_code 20 = .ok (.i2c, 1) := by decide +kernel
theorem d2_21 : decode method_3_code 21 = .ok (.istore_n 3, 1) := by decide +kernel
theorem d2_22 : decode method_3_code 22 = .ok (.iload_n 1, 1) := by decide +kernel
theorem d2_23 : decode method_3_code 23 = .ok (.ifCond .ne 6, 3) := by decide +kernel
theorem d2_29 : decode method_3_code 29 = .ok (.iload_n 1, 1) := by decide +kernel
theorem d2_30 : decode method_3_code 30 = .ok (.iconst 1, 1) := by decide +kernel
theorem d2_31 : decode method_3_code 31 = .ok (.if_icmp .ne 8, 3) := by decide +kernel
theorem d2_34 : decode method_3_code 34 = .ok (.iload_n 2, 1) := by decide +kernel
theorem d2_35 : decode method_3_code 35 = .ok (.invokestatic 13, 3) := by decide +kernel
theorem pd_3 : parseMethodDescriptor "(C)Ljava/lang/String;" = some ⟨[.char], some (.object "java/lang/String")⟩ := by decide +kernel
theorem d2_38 : decode method_3_code 38 = .ok (.areturn, 1) := by decide +kernel
def Q_rm2b (Z : State) (p1 : Int32) (cs : Int32) (h0 : Heap) (n0 : Nat) (v : Option Value) (h : Heap) (L : List Loc) : Prop := ∃ x : Addr, v = some (.ref x) ∧ Fr n0 L ∧ Keep h0 h [] ∧ SStr Z h x (own_cs p1)
theorem ef_rm2b (m : MethodId) (x0 : Int32) : entryFrame m #[(.int x0)] 4 = mkF m 0 #[.val (.int x0), .unset, .unset, .unset] [] := by first | (simp [entryFrame, mkF, argsToLocals, Value.category]; done) | rfl
theorem pn_2 : plainName "com/example/subjectory/subjectory/heading/ClassLinkEqualsPinLaw" = true := by first | (simp [plainName, overriddenIn]; done) | decide +kernel
set_option maxRecDepth 65536 in
set_option maxHeartbeats 40000000 in
theorem rm2b (l : Launch) (Z : State) (a0 : Array Value) (hw : ∀ d ∈ tables_1, d.before a0 Z = true) (ws : List Jvm.Cond) (p1 : Int32) (cs : Int32) (h0 : Heap) (n0 : Nat) (Z0 : n0 ≤ h0.size) (S_String_COMPACT_STRINGS : Sta Z h0 "java/lang/String" "COMPACT_STRINGS" "Z" (.int cs)) (hcs : ¬ (cs = (0 : Int32))) (hc23 : ¬ (((p1.toUInt32 >>> ((16 : Int32) &&& 31).toUInt32).toInt32) = (0 : Int32))) (hc31 : (((p1.toUInt32 >>> ((16 : Int32) &&& 31).toUInt32).toInt32) = (1 : Int32))) :
    MetFree l (⟨"com/example/subjectory/subjectory/heading/ClassLinkEqualsPinLaw", "str", "(I)Ljava/lang/String;"⟩ : MethodName) (head1 (Jvm.Cond.code (⟨"com/example/subjectory/subjectory/heading/ClassLinkEqualsPinLaw", "str", "(I)Ljava/lang/String;"⟩ : MethodName) method_3_code 4 (some (.object "java/lang/String")) :: ws) ({ frames := 5, cells := 3, slots := 12, locals := 80 } : Room)) (fun a U => a = #[(.int p1)] ∧ Z.Warmed39 U.vm ∧ U.heap = h0) (fun _ _ _ _ _ => True) (fun _ U o U' => ∃ v L, o = .returned v ∧ Q_rm2b Z p1 cs h0 n0 v U'.heap L ∧ FrameEnd U o U' L ({ frames := 5, cells := 3, slots := 12, locals := 80 } : Room).cells ({ frames := 5, cells := 3, slots := 12, locals := 80 } : Room).slots) := by
  refine MetFree.of_bodySF (plainFor_of_name pn_2) hisR ?_
  intro p e s m args below meth c s₁ Bd hml0 hP hK
  obtain ⟨rfl, hZ, hh⟩ := hP
  have hx := Bd.exec
  have hby := Bd.bytes
  have hml : c.maxLocals = 4 := hml0
  have hown : s.vm.findClass "com/example/subjectory/subjectory/heading/ClassLinkEqualsPinLaw" = some m.cls := findClass_of_methodNamed Bd.named
  have hnm := (name_of_methodNamed Bd.named Bd.method).1
  have X0 : Stand p l e ({ frames := 5, cells := 3, slots := 12, locals := 80 } : Room) s m #[(.int p1)] below meth c s₁ [] 0 0 := Stand.of_body Bd
  have e0 : s₁.heap = h0 := by rw [← hh, Bd.state]; rfl
  have N0 := Fr.nil n0
  show Run p e below s 3 12 (Q_rm2b Z p1 cs h0 n0) (s₁.setTop (entryFrame m #[(.int p1)] 4))
  refine Run.go (fun _ k => castTop (ef_rm2b m p1) k) ?_
  show Run p e below s 3 12 (Q_rm2b Z p1 cs h0 n0) (s₁.setTop (mkF m 0 #[.val (.int p1), .unset, .unset, .unset] []))
  refine Run.go (fun _ k => XS.iloadN X0.here hx rfl (hb hby d2_0) rfl  k) ?_
  show Run p e below s 3 12 (Q_rm2b Z p1 cs h0 n0) (s₁.setTop (mkF m 1 #[.val (.int p1), .unset, .unset, .unset] [(.int p1)]))
  refine Run.go (fun _ k => XS.bipush X0.here hx rfl (hb hby d2_1) k) ?_
  show Run p e below s 3 12 (Q_rm2b Z p1 cs h0 n0) (s₁.setTop (mkF m 3 #[.val (.int p1), .unset, .unset, .unset] [(.int (16 : Int32)), (.int p1)]))
  refine Run.go (fun _ k => XS.iushr X0.here hx rfl (hb hby d2_3) rfl k) ?_
  show Run p e below s 3 12 (Q_rm2b Z p1 cs h0 n0) (s₁.setTop (mkF m 4 #[.val (.int p1), .unset, .unset, .unset] [(.int ((p1.toUInt32 >>> ((16 : Int32) &&& 31).toUInt32).toInt32))]))
  refine Run.go (fun _ k => XS.istoreN X0.here hx rfl (hb hby d2_4) rfl (l' := #[.val (.int p1), .val (.int ((p1.toUInt32 >>> ((16 : Int32) &&& 31).toUInt32).toInt32)), .unset, .unset]) rfl k) ?_
  show Run p e below s 3 12 (Q_rm2b Z p1 cs h0 n0) (s₁.setTop (mkF m 5 #[.val (.int p1), .val (.int ((p1.toUInt32 >>> ((16 : Int32) &&& 31).toUInt32).toInt32)), .unset, .unset] []))
  refine Run.go (fun _ k => XS.iloadN X0.here hx rfl (hb hby d2_5) rfl  k) ?_
  show Run p e below s 3 12 (Q_rm2b Z p1 cs h0 n0) (s₁.setTop (mkF m 6 #[.val (.int p1), .val (.int ((p1.toUInt32 >>> ((16 : Int32) &&& 31).toUInt32).toInt32)), .unset, .unset] [(.int p1)]))
  refine Run.go (fun _ k => XS.bipush X0.here hx rfl (hb hby d2_6) k) ?_
  show Run p e below s 3 12 (Q_rm2b Z p1 cs h0 n0) (s₁.setTop (mkF m 8 #[.val (.int p1), .val (.int ((p1.toUInt32 >>> ((16 : Int32) &&& 31).toUInt32).toInt32)), .unset, .unset] [(.int (8 : Int32)), (.int p1)]))
  refine Run.go (fun _ k => XS.iushr X0.here hx rfl (hb hby d2_8) rfl k) ?_
  show Run p e below s 3 12 (Q_rm2b Z p1 cs h0 n0) (s₁.setTop (mkF m 9 #[.val (.int p1), .val (.int ((p1.toUInt32 >>> ((16 : Int32) &&& 31).toUInt32).toInt32)), .unset, .unset] [(.int ((p1.toUInt32 >>> ((8 : Int32) &&& 31).toUInt32).toInt32))]))
  refine Run.go (fun _ k => XS.sipush X0.here hx rfl (hb hby d2_9) k) ?_
  show Run p e below s 3 12 (Q_rm2b Z p1 cs h0 n0) (s₁.setTop (mkF m 12 #[.val (.int p1), .val (.int ((p1.toUInt32 >>> ((16 : Int32) &&& 31).toUInt32).toInt32)), .unset, .unset] [(.int (255 : Int32)), (.int ((p1.toUInt32 >>> ((8 : Int32) &&& 31).toUInt32).toInt32))]))
  refine Run.go (fun _ k => XS.iand X0.here hx rfl (hb hby d2_12) rfl k) ?_
  show Run p e below s 3 12 (Q_rm2b Z p1 cs h0 n0) (s₁.setTop (mkF m 13 #[.val (.int p1), .val (.int ((p1.toUInt32 >>> ((16 : Int32) &&& 31).toUInt32).toInt32)), .unset, .unset] [(.int (((p1.toUInt32 >>> ((8 : Int32) &&& 31).toUInt32).toInt32) &&& (255 : Int32)))]))
  refine Run.go (fun _ k => XS.i2c X0.here hx rfl (hb hby d2_13) rfl k) ?_
  show Run p e below s 3 12 (Q_rm2b Z p1 cs h0 n0) (s₁.setTop (mkF m 14 #[.val (.int p1), .val (.int ((p1.toUInt32 >>> ((16 : Int32) &&& 31).toUInt32).toInt32)), .unset, .unset] [(.int ((((p1.toUInt32 >>> ((8 : Int32) &&& 31).toUInt32).toInt32) &&& (255 : Int32)).toUInt32.toUInt16.toUInt32.toInt32))]))
  refine Run.go (fun _ k => XS.istoreN X0.here hx rfl (hb hby d2_14) rfl (l' := #[.val (.int p1), .val (.int ((p1.toUInt32 >>> ((16 : Int32) &&& 31).toUInt32).toInt32)), .val (.int ((((p1.toUInt32 >>> ((8 : Int32) &&& 31).toUInt32).toInt32) &&& (255 : Int32)).toUInt32.toUInt16.toUInt32.toInt32)), .unset]) rfl k) ?_
  show Run p e below s 3 12 (Q_rm2b Z p1 cs h0 n0) (s₁.setTop (mkF m 15 #[.val (.int p1), .val (.int ((p1.toUInt32 >>> ((16 : Int32) &&& 31).toUInt32).toInt32)), .val (.int ((((p1.toUInt32 >>> ((8 : Int32) &&& 31).toUInt32).toInt32) &&& (255 : Int32)).toUInt32.toUInt16.toUInt32.toInt32)), .unset] []))
  refine Run.go (fun _ k => XS.iloadN X0.here hx rfl (hb hby d2_15) rfl  k) ?_
  show Run p e below s 3 12 (Q_rm2b Z p1 cs h0 n0) (s₁.setTop (mkF m 16 #[.val (.int p1), .val (.int ((p1.toUInt32 >>> ((16 : Int32) &&& 31).toUInt32).toInt32)), .val (.int ((((p1.toUInt32 >>> ((8 : Int32) &&& 31).toUInt32).toInt32) &&& (255 : Int32)).toUInt32.toUInt16.toUInt32.toInt32)), .unset] [(.int p1)]))
  refine Run.go (fun _ k => XS.sipush X0.here hx rfl (hb hby d2_16) k) ?_
  show Run p e below s 3 12 (Q_rm2b Z p1 cs h0 n0) (s₁.setTop (mkF m 19 #[.val (.int p1), .val (.int ((p1.toUInt32 >>> ((16 : Int32) &&& 31).toUInt32).toInt32)), .val (.int ((((p1.toUInt32 >>> ((8 : Int32) &&& 31).toUInt32).toInt32) &&& (255 : Int32)).toUInt32.toUInt16.toUInt32.toInt32)), .unset] [(.int (255 : Int32)), (.int p1)]))
  refine Run.go (fun _ k => XS.iand X0.here hx rfl (hb hby d2_19) rfl k) ?_
  show Run p e below s 3 12 (Q_rm2b Z p1 cs h0 n0) (s₁.setTop (mkF m 20 #[.val (.int p1), .val (.int ((p1.toUInt32 >>> ((16 : Int32) &&& 31).toUInt32).toInt32)), .val (.int ((((p1.toUInt32 >>> ((8 : Int32) &&& 31).toUInt32).toInt32) &&& (255 : Int32)).toUInt32.toUInt16.toUInt32.toInt32)), .unset] [(.int (p1 &&& (255 : Int32)))]))
  refine Run.go (fun _ k => XS.i2c X0.here hx rfl (hb hby d2_20) rfl k) ?_
  show Run p e below s 3 12 (Q_rm2b Z p1 cs h0 n0) (s₁.setTop (mkF m 21 #[.val (.int p1), .val (.int ((p1.toUInt32 >>> ((16 : Int32) &&& 31).toUInt32).toInt32)), .val (.int ((((p1.toUInt32 >>> ((8 : Int32) &&& 31).toUInt32).toInt32) &&& (255 : Int32)).toUInt32.toUInt16.toUInt32.toInt32)), .unset] [(.int ((p1 &&& (255 : Int32)).toUInt32.toUInt16.toUInt32.toInt32))]))
  refine Run.go (fun _ k => XS.istoreN X0.here hx rfl (hb hby d2_21) rfl (l' := #[.val (.int p1), .val (.int ((p1.toUInt32 >>> ((16 : Int32) &&& 31).toUInt32).toInt32)), .val (.int ((((p1.toUInt32 >>> ((8 : Int32) &&& 31).toUInt32).toInt32) &&& (255 : Int32)).toUInt32.toUInt16.toUInt32.toInt32)), .val (.int ((p1 &&& (255 : Int32)).toUInt32.toUInt16.toUInt32.toInt32))]) rfl k) ?_
  show Run p e below s 3 12 (Q_rm2b Z p1 cs h0 n0) (s₁.setTop (mkF m 22 #[.val (.int p1), .val (.int ((p1.toUInt32 >>> ((16 : Int32) &&& 31).toUInt32).toInt32)), .val (.int ((((p1.toUInt32 >>> ((8 : Int32) &&& 31).toUInt32).toInt32) &&& (255 : Int32)).toUInt32.toUInt16.toUInt32.toInt32)), .val (.int ((p1 &&& (255 : Int32)).toUInt32.toUInt16.toUInt32.toInt32))] []))
  refine Run.go (fun _ k => XS.iloadN X0.here hx rfl (hb hby d2_22) rfl  k) ?_
  show Run p e below s 3 12 (Q_rm2b Z p1 cs h0 n0) (s₁.setTop (mkF m 23 #[.val (.int p1), .val (.int ((p1.toUInt32 >>> ((16 : Int32) &&& 31).toUInt32).toInt32)), .val (.int ((((p1.toUInt32 >>> ((8 : Int32) &&& 31).toUInt32).toInt32) &&& (255 : Int32)).toUInt32.toUInt16.toUInt32.toInt32)), .val (.int ((p1 &&& (255 : Int32)).toUInt32.toUInt16.toUInt32.toInt32))] [(.int ((p1.toUInt32 >>> ((16 : Int32) &&& 31).toUInt32).toInt32))]))
  refine Run.go (fun _ k => XS.ifYes X0.here hx rfl (pc0 := 23) (pc' := 29) rfl (hb hby d2_23) rfl ((if0 _ _).trans (feq hc23).2) (by decide) (by decide) k) ?_
  show Run p e below s 3 12 (Q_rm2b Z p1 cs h0 n0) (s₁.setTop (mkF m 29 #[.val (.int p1), .val (.int ((p1.toUInt32 >>> ((16 : Int32) &&& 31).toUInt32).toInt32)), .val (.int ((((p1.toUInt32 >>> ((8 : Int32) &&& 31).toUInt32).toInt32) &&& (255 : Int32)).toUInt32.toUInt16.toUInt32.toInt32)), .val (.int ((p1 &&& (255 : Int32)).toUInt32.toUInt16.toUInt32.toInt32))] []))
  refine Run.go (fun _ k => XS.iloadN X0.here hx rfl (hb hby d2_29) rfl  k) ?_
  show Run p e below s 3 12 (Q_rm2b Z p1 cs h0 n0) (s₁.setTop (mkF m 30 #[.val (.int p1), .val (.int ((p1.toUInt32 >>> ((16 : Int32) &&& 31).toUInt32).toInt32)), .val (.int ((((p1.toUInt32 >>> ((8 : Int32) &&& 31).toUInt32).toInt32) &&& (255 : Int32)).toUInt32.toUInt16.toUInt32.toInt32)), .val (.int ((p1 &&& (255 : Int32)).toUInt32.toUInt16.toUInt32.toInt32))] [(.int ((p1.toUInt32 >>> ((16 : Int32) &&& 31).toUInt32).toInt32))]))
  refine Run.go (fun _ k => XS.iconst X0.here hx rfl (hb hby d2_30) k) ?_
  show Run p e below s 3 12 (Q_rm2b Z p1 cs h0 n0) (s₁.setTop (mkF m 31 #[.val (.int p1), .val (.int ((p1.toUInt32 >>> ((16 : Int32) &&& 31).toUInt32).toInt32)), .val (.int ((((p1.toUInt32 >>> ((8 : Int32) &&& 31).toUInt32).toInt32) &&& (255 : Int32)).toUInt32.toUInt16.toUInt32.toInt32)), .val (.int ((p1 &&& (255 : Int32)).toUInt32.toUInt16.toUInt32.toInt32))] [(.int (1 : Int32)), (.int ((p1.toUInt32 >>> ((16 : Int32) &&& 31).toUInt32).toInt32))]))
  refine Run.go (fun _ k => XS.icmpNo X0.here hx rfl (hb hby d2_31) rfl (teq hc31).2 k) ?_
  show Run p e below s 3 12 (Q_rm2b Z p1 cs h0 n0) (s₁.setTop (mkF m 34 #[.val (.int p1), .val (.int ((p1.toUInt32 >>> ((16 : Int32) &&& 31).toUInt32).toInt32)), .val (.int ((((p1.toUInt32 >>> ((8 : Int32) &&& 31).toUInt32).toInt32) &&& (255 : Int32)).toUInt32.toUInt16.toUInt32.toInt32)), .val (.int ((p1 &&& (255 : Int32)).toUInt32.toUInt16.toUInt32.toInt32))] []))
  refine Run.go (fun _ k => XS.iloadN X0.here hx rfl (hb hby d2_34) rfl  k) ?_
  show Run p e below s 3 12 (Q_rm2b Z p1 cs h0 n0) (s₁.setTop (mkF m 35 #[.val (.int p1), .val (.int ((p1.toUInt32 >>> ((16 : Int32) &&& 31).toUInt32).toInt32)), .val (.int ((((p1.toUInt32 >>> ((8 : Int32) &&& 31).toUInt32).toInt32) &&& (255 : Int32)).toUInt32.toUInt16.toUInt32.toInt32)), .val (.int ((p1 &&& (255 : Int32)).toUInt32.toUInt16.toUInt32.toInt32))] [(.int ((((p1.toUInt32 >>> ((8 : Int32) &&& 31).toUInt32).toInt32) &&& (255 : Int32)).toUInt32.toUInt16.toUInt32.toInt32))]))
  obtain ⟨_, _, ⟨T2, L2, k2, n2⟩, -, X2, ⟨Lc2, hQ2, l2, y2, z2⟩, st2⟩ := Jvm.LawKit.callS X0 hx (y := (⟨"java/lang/String", "valueOf", "(C)Ljava/lang/String;"⟩ : MethodName)) hown (mvT hZ (hw _ (List.mem_of_getElem? (i := 20) rfl))) (mvT hZ (hw _ (List.mem_of_getElem? (i := 21) rfl))) (mvT hZ (hw _ (List.mem_of_getElem? (i := 13) rfl))) (mvT hZ (hw _ (List.mem_of_getElem? (i := 22) rfl))) (by decide) (backOf (W := 0) (rm3 l Z a0 hw [] ((((p1.toUInt32 >>> ((8 : Int32) &&& 31).toUInt32).toInt32) &&& (255 : Int32)).toUInt32.toUInt16.toUInt32.toInt32) cs h0 n0 Z0 S_String_COMPACT_STRINGS hcs (by rw [i2c_mask]; exact own_ch _)) hZ (hw _ (List.mem_of_getElem? (i := 22) rfl)) (hw _ (List.mem_of_getElem? (i := 13) rfl)) (by decide) (by decide)) (g := (mkF m 35 #[.val (.int p1), .val (.int ((p1.toUInt32 >>> ((16 : Int32) &&& 31).toUInt32).toInt32)), .val (.int ((((p1.toUInt32 >>> ((8 : Int32) &&& 31).toUInt32).toInt32) &&& (255 : Int32)).toUInt32.toUInt16.toUInt32.toInt32)), .val (.int ((p1 &&& (255 : Int32)).toUInt32.toUInt16.toUInt32.toInt32))] [(.int ((((p1.toUInt32 >>> ((8 : Int32) &&& 31).toUInt32).toInt32) &&& (255 : Int32)).toUInt32.toUInt16.toUInt32.toInt32))])) rfl (by rw [hml]; rfl) (argsL := [(.int ((((p1.toUInt32 >>> ((8 : Int32) &&& 31).toUInt32).toInt32) &&& (255 : Int32)).toUInt32.toUInt16.toUInt32.toInt32))]) (rest := []) (lenOf pd_3 rfl) rfl (by show 2 * 0 + _ ≤ _; exact Nat.le_of_eq rfl) (hb hby d2_35) (fun _ _ => ⟨rfl, e0, (by decide : 0 + 2 ≤ _), (by decide : 0 + 5 ≤ _)⟩)
  dsimp only [Pt.U, Pt.locs, Pt.cells, Pt.slots] at X2 l2 y2 z2 st2 hQ2
  subst l2 y2 z2
  obtain ⟨b3, b4, rfl, N2q, K2q, s_b3, s_b4, fq2_0, fq2_1, fq2_2, fq2_3⟩ := hQ2
  have N2 := Fr.app N0 N2q
  have K2 : Keep h0 T2.heap [] := (Keep.refl h0 []).trans K2q all0
  have g_b3 : n0 ≤ b3 := Nat.le_trans Z0 s_b3
  have sz_b3 : h0.size ≤ b3 := Nat.le_trans (Keep.refl h0 []).1 s_b3
  have g_b4 : n0 ≤ b4 := Nat.le_trans Z0 s_b4
  have sz_b4 : h0.size ≤ b4 := Nat.le_trans (Keep.refl h0 []).1 s_b4
  have Z2 : n0 ≤ T2.heap.size := Nat.le_trans Z0 K2q.1
  obtain ⟨Lg2, Xg2, Ng2⟩ := Stand_gen X2 N2
  refine Run.go st2 ?_
  show Run p e below s 3 12 (Q_rm2b Z p1 cs h0 n0) (T2.setTop (mkF m 38 #[.val (.int p1), .val (.int ((p1.toUInt32 >>> ((16 : Int32) &&& 31).toUInt32).toInt32)), .val (.int ((((p1.toUInt32 >>> ((8 : Int32) &&& 31).toUInt32).toInt32) &&& (255 : Int32)).toUInt32.toUInt16.toUInt32.toInt32)), .val (.int ((p1 &&& (255 : Int32)).toUInt32.toUInt16.toUInt32.toInt32))] [(.ref b3)]))
  refine Run.retA Xg2 hx rfl Bd.returns rfl Bd.notSynchronized (hb hby d2_38) (by decide) (by decide) ?_
  show Q_rm2b Z p1 cs h0 n0 _ T2.heap _
  exact ⟨_, rfl, Ng2, K2, own_s1 hc31 fq2_0 fq2_1 fq2_2 fq2_3 rfl⟩
theorem d2_39 : decode method_3_code 39 = .ok (.new 14, 3) := by decide +kernel
theorem d2_42 : decode method_3_code 42 = .ok (.dup, 1) := by decide +kernel
theorem d2_43 : decode method_3_code 43 = .ok (.iconst 2, 1) := by decide +kernel
theorem d2_44 : decode method_3_code 44 = .ok (.newarray .char, 2) := by decide +kernel
theorem d2_46 : decode method_3_code 46 = .ok (.dup, 1) := by decide +kernel
theorem d2_47 : decode method_3_code 47 = .ok (.iconst 0, 1) := by decide +kernel
theorem d2_48 : decode method_3_code 48 = .ok (.iload_n 2, 1) := by decide +kernel
theorem d2_49 : decode method_3_code 49 = .ok (.castore, 1) := by decide +kernel
theorem d2_50 : decode method_3_code 50 = .ok (.dup, 1) := by decide +kernel
theorem d2_51 : decode method_3_code 51 = .ok (.iconst 1, 1) := by decide +kernel
theorem d2_52 : decode method_3_code 52 = .ok (.iload_n 3, 1) := by decide +kernel
theorem d2_53 : decode method_3_code 53 = .ok (.castore, 1) := by decide +kernel
theorem d2_54 : decode method_3_code 54 = .ok (.invokespecial 19, 3) := by decide +kernel
theorem pd_4 : parseMethodDescriptor "([C)V" = some ⟨[(.array .char)], none⟩ := by decide +kernel
theorem d2_57 : decode method_3_code 57 = .ok (.areturn, 1) := by decide +kernel
def Q_rm2c (Z : State) (p1 : Int32) (cs : Int32) (h0 : Heap) (n0 : Nat) (v : Option Value) (h : Heap) (L : List Loc) : Prop := ∃ x : Addr, v = some (.ref x) ∧ Fr n0 L ∧ Keep h0 h [] ∧ SStr Z h x (own_cs p1)
theorem ef_rm2c (m : MethodId) (x0 : Int32) : entryFrame m #[(.int x0)] 4 = mkF m 0 #[.val (.int x0), .unset, .unset, .unset] [] := by first | (simp [entryFrame, mkF, argsToLocals, Value.category]; done) | rfl
set_option maxRecDepth 65536 in
set_option maxHeartbeats 40000000 in
theorem rm2c (l : Launch) (Z : State) (a0 : Array Value) (hw : ∀ d ∈ tables_1, d.before a0 Z = true) (ws : List Jvm.Cond) (p1 : Int32) (cs : Int32) (h0 : Heap) (n0 : Nat) (Z0 : n0 ≤ h0.size) (S_String_COMPACT_STRINGS : Sta Z h0 "java/lang/String" "COMPACT_STRINGS" "Z" (.int cs)) (hcs : ¬ (cs = (0 : Int32))) (hc23 : ¬ (((p1.toUInt32 >>> ((16 : Int32) &&& 31).toUInt32).toInt32) = (0 : Int32))) (hc31 : ¬ (((p1.toUInt32 >>> ((16 : Int32) &&& 31).toUInt32).toInt32) = (1 : Int32))) :
    MetFree l (⟨"com/example/subjectory/subjectory/heading/ClassLinkEqualsPinLaw", "str", "(I)Ljava/lang/String;"⟩ : MethodName) (head1 (Jvm.Cond.code (⟨"com/example/subjectory/subjectory/heading/ClassLinkEqualsPinLaw", "str", "(I)Ljava/lang/String;"⟩ : MethodName) method_3_code 4 (some (.object "java/lang/String")) :: ws) ({ frames := 5, cells := 3, slots := 12, locals := 80 } : Room)) (fun a U => a = #[(.int p1)] ∧ Z.Warmed39 U.vm ∧ U.heap = h0) (fun _ _ _ _ _ => True) (fun _ U o U' => ∃ v L, o = .returned v ∧ Q_rm2c Z p1 cs h0 n0 v U'.heap L ∧ FrameEnd U o U' L ({ frames := 5, cells := 3, slots := 12, locals := 80 } : Room).cells ({ frames := 5, cells := 3, slots := 12, locals := 80 } : Room).slots) := by
  refine MetFree.of_bodySF (plainFor_of_name pn_2) hisR ?_
  intro p e s m args below meth c s₁ Bd hml0 hP hK
  obtain ⟨rfl, hZ, hh⟩ := hP
  have hx := Bd.exec
  have hby := Bd.bytes
  have hml : c.maxLocals = 4 := hml0
  have hown : s.vm.findClass "com/example/subjectory/subjectory/heading/ClassLinkEqualsPinLaw" = some m.cls := findClass_of_methodNamed Bd.named
  have hnm := (name_of_methodNamed Bd.named Bd.method).1
  have X0 : Stand p l e ({ frames := 5, cells := 3, slots := 12, locals := 80 } : Room) s m #[(.int p1)] below meth c s₁ [] 0 0 := Stand.of_body Bd
  have e0 : s₁.heap = h0 := by rw [← hh, Bd.state]; rfl
  have N0 := Fr.nil n0
  show Run p e below s 3 12 (Q_rm2c Z p1 cs h0 n0) (s₁.setTop (entryFrame m #[(.int p1)] 4))
  refine Run.go (fun _ k => castTop (ef_rm2c m p1) k) ?_
  show Run p e below s 3 12 (Q_rm2c Z p1 cs h0 n0) (s₁.setTop (mkF m 0 #[.val (.int p1), .unset, .unset, .unset] []))
  refine Run.go (fun _ k => XS.iloadN X0.here hx rfl (hb hby d2_0) rfl  k) ?_
  show Run p e below s 3 12 (Q_rm2c Z p1 cs h0 n0) (s₁.setTop (mkF m 1 #[.val (.int p1), .unset, .unset, .unset] [(.int p1)]))
  refine Run.go (fun _ k => XS.bipush X0.here hx rfl (hb hby d2_1) k) ?_
  show Run p e below s 3 12 (Q_rm2c Z p1 cs h0 n0) (s₁.setTop (mkF m 3 #[.val (.int p1), .unset, .unset, .unset] [(.int (16 : Int32)), (.int p1)]))
  refine Run.go (fun _ k => XS.iushr X0.here hx rfl (hb hby d2_3) rfl k) ?_
  show Run p e below s 3 12 (Q_rm2c Z p1 cs h0 n0) (s₁.setTop (mkF m 4 #[.val (.int p1), .unset, .unset, .unset] [(.int ((p1.toUInt32 >>> ((16 : Int32) &&& 31).toUInt32).toInt32))]))
  refine Run.go (fun _ k => XS.istoreN X0.here hx rfl (hb hby d2_4) rfl (l' := #[.val (.int p1), .val (.int ((p1.toUInt32 >>> ((16 : Int32) &&& 31).toUInt32).toInt32)), .unset, .unset]) rfl k) ?_
  show Run p e below s 3 12 (Q_rm2c Z p1 cs h0 n0) (s₁.setTop (mkF m 5 #[.val (.int p1), .val (.int ((p1.toUInt32 >>> ((16 : Int32) &&& 31).toUInt32).toInt32)), .unset, .unset] []))
  refine Run.go (fun _ k => XS.iloadN X0.here hx rfl (hb hby d2_5) rfl  k) ?_
  show Run p e below s 3 12 (Q_rm2c Z p1 cs h0 n0) (s₁.setTop (mkF m 6 #[.val (.int p1), .val (.int ((p1.toUInt32 >>> ((16 : Int32) &&& 31).toUInt32).toInt32)), .unset, .unset] [(.int p1)]))
  refine Run.go (fun _ k => XS.bipush X0.here hx rfl (hb hby d2_6) k) ?_
  show Run p e below s 3 12 (Q_rm2c Z p1 cs h0 n0) (s₁.setTop (mkF m 8 #[.val (.int p1), .val (.int ((p1.toUInt32 >>> ((16 : Int32) &&& 31).toUInt32).toInt32)), .unset, .unset] [(.int (8 : Int32)), (.int p1)]))
  refine Run.go (fun _ k => XS.iushr X0.here hx rfl (hb hby d2_8) rfl k) ?_
  show Run p e below s 3 12 (Q_rm2c Z p1 cs h0 n0) (s₁.setTop (mkF m 9 #[.val (.int p1), .val (.int ((p1.toUInt32 >>> ((16 : Int32) &&& 31).toUInt32).toInt32)), .unset, .unset] [(.int ((p1.toUInt32 >>> ((8 : Int32) &&& 31).toUInt32).toInt32))]))
  refine Run.go (fun _ k => XS.sipush X0.here hx rfl (hb hby d2_9) k) ?_
  show Run p e below s 3 12 (Q_rm2c Z p1 cs h0 n0) (s₁.setTop (mkF m 12 #[.val (.int p1), .val (.int ((p1.toUInt32 >>> ((16 : Int32) &&& 31).toUInt32).toInt32)), .unset, .unset] [(.int (255 : Int32)), (.int ((p1.toUInt32 >>> ((8 : Int32) &&& 31).toUInt32).toInt32))]))
  refine Run.go (fun _ k => XS.iand X0.here hx rfl (hb hby d2_12) rfl k) ?_
  show Run p e below s 3 12 (Q_rm2c Z p1 cs h0 n0) (s₁.setTop (mkF m 13 #[.val (.int p1), .val (.int ((p1.toUInt32 >>> ((16 : Int32) &&& 31).toUInt32).toInt32)), .unset, .unset] [(.int (((p1.toUInt32 >>> ((8 : Int32) &&& 31).toUInt32).toInt32) &&& (255 : Int32)))]))
  refine Run.go (fun _ k => XS.i2c X0.here hx rfl (hb hby d2_13) rfl k) ?_
  show Run p e below s 3 12 (Q_rm2c Z p1 cs h0 n0) (s₁.setTop (mkF m 14 #[.val (.int p1), .val (.int ((p1.toUInt32 >>> ((16 : Int32) &&& 31).toUInt32).toInt32)), .unset, .unset] [(.int ((((p1.toUInt32 >>> ((8 : Int32) &&& 31).toUInt32).toInt32) &&& (255 : Int32)).toUInt32.toUInt16.toUInt32.toInt32))]))
  refine Run.go (fun _ k => XS.istoreN X0.here hx rfl (hb hby d2_14) rfl (l' := #[.val (.int p1), .val (.int ((p1.toUInt32 >>> ((16 : Int32) &&& 31).toUInt32).toInt32)), .val (.int ((((p1.toUInt32 >>> ((8 : Int32) &&& 31).toUInt32).toInt32) &&& (255 : Int32)).toUInt32.toUInt16.toUInt32.toInt32)), .unset]) rfl k) ?_
  show Run p e below s 3 12 (Q_rm2c Z p1 cs h0 n0) (s₁.setTop (mkF m 15 #[.val (.int p1), .val (.int ((p1.toUInt32 >>> ((16 : Int32) &&& 31).toUInt32).toInt32)), .val (.int ((((p1.toUInt32 >>> ((8 : Int32) &&& 31).toUInt32).toInt32) &&& (255 : Int32)).toUInt32.toUInt16.toUInt32.toInt32)), .unset] []))
  refine Run.go (fun _ k => XS.iloadN X0.here hx rfl (hb hby d2_15) rfl  k) ?_
  show Run p e below s 3 12 (Q_rm2c Z p1 cs h0 n0) (s₁.setTop (mkF m 16 #[.val (.int p1), .val (.int ((p1.toUInt32 >>> ((16 : Int32) &&& 31).toUInt32).toInt32)), .val (.int ((((p1.toUInt32 >>> ((8 : Int32) &&& 31).toUInt32).toInt32) &&& (255 : Int32)).toUInt32.toUInt16.toUInt32.toInt32)), .unset] [(.int p1)]))
  refine Run.go (fun _ k => XS.sipush X0.here hx rfl (hb hby d2_16) k) ?_
  show Run p e below s 3 12 (Q_rm2c Z p1 cs h0 n0) (s₁.setTop (mkF m 19 #[.val (.int p1), .val (.int ((p1.toUInt32 >>> ((16 : Int32) &&& 31).toUInt32).toInt32)), .val (.int ((((p1.toUInt32 >>> ((8 : Int32) &&& 31).toUInt32).toInt32) &&& (255 : Int32)).toUInt32.toUInt16.toUInt32.toInt32)), .unset] [(.int (255 : Int32)), (.int p1)]))
  refine Run.go (fun _ k => XS.iand X0.here hx rfl (hb hby d2_19) rfl k) ?_
  show Run p e below s 3 12 (Q_rm2c Z p1 cs h0 n0) (s₁.setTop (mkF m 20 #[.val (.int p1), .val (.int ((p1.toUInt32 >>> ((16 : Int32) &&& 31).toUInt32).toInt32)), .val (.int ((((p1.toUInt32 >>> ((8 : Int32) &&& 31).toUInt32).toInt32) &&& (255 : Int32)).toUInt32.toUInt16.toUInt32.toInt32)), .unset] [(.int (p1 &&& (255 : Int32)))]))
  refine Run.go (fun _ k => XS.i2c X0.here hx rfl (hb hby d2_20) rfl k) ?_
  show Run p e below s 3 12 (Q_rm2c Z p1 cs h0 n0) (s₁.setTop (mkF m 21 #[.val (.int p1), .val (.int ((p1.toUInt32 >>> ((16 : Int32) &&& 31).toUInt32).toInt32)), .val (.int ((((p1.toUInt32 >>> ((8 : Int32) &&& 31).toUInt32).toInt32) &&& (255 : Int32)).toUInt32.toUInt16.toUInt32.toInt32)), .unset] [(.int ((p1 &&& (255 : Int32)).toUInt32.toUInt16.toUInt32.toInt32))]))
  refine Run.go (fun _ k => XS.istoreN X0.here hx rfl (hb hby d2_21) rfl (l' := #[.val (.int p1), .val (.int ((p1.toUInt32 >>> ((16 : Int32) &&& 31).toUInt32).toInt32)), .val (.int ((((p1.toUInt32 >>> ((8 : Int32) &&& 31).toUInt32).toInt32) &&& (255 : Int32)).toUInt32.toUInt16.toUInt32.toInt32)), .val (.int ((p1 &&& (255 : Int32)).toUInt32.toUInt16.toUInt32.toInt32))]) rfl k) ?_
  show Run p e below s 3 12 (Q_rm2c Z p1 cs h0 n0) (s₁.setTop (mkF m 22 #[.val (.int p1), .val (.int ((p1.toUInt32 >>> ((16 : Int32) &&& 31).toUInt32).toInt32)), .val (.int ((((p1.toUInt32 >>> ((8 : Int32) &&& 31).toUInt32).toInt32) &&& (255 : Int32)).toUInt32.toUInt16.toUInt32.toInt32)), .val (.int ((p1 &&& (255 : Int32)).toUInt32.toUInt16.toUInt32.toInt32))] []))
  refine Run.go (fun _ k => XS.iloadN X0.here hx rfl (hb hby d2_22) rfl  k) ?_
  show Run p e below s 3 12 (Q_rm2c Z p1 cs h0 n0) (s₁.setTop (mkF m 23 #[.val (.int p1), .val (.int ((p1.toUInt32 >>> ((16 : Int32) &&& 31).toUInt32).toInt32)), .val (.int ((((p1.toUInt32 >>> ((8 : Int32) &&& 31).toUInt32).toInt32) &&& (255 : Int32)).toUInt32.toUInt16.toUInt32.toInt32)), .val (.int ((p1 &&& (255 : Int32)).toUInt32.toUInt16.toUInt32.toInt32))] [(.int ((p1.toUInt32 >>> ((16 : Int32) &&& 31).toUInt32).toInt32))]))
  refine Run.go (fun _ k => XS.ifYes X0.here hx rfl (pc0 := 23) (pc' := 29) rfl (hb hby d2_23) rfl ((if0 _ _).trans (feq hc23).2) (by decide) (by decide) k) ?_
  show Run p e below s 3 12 (Q_rm2c Z p1 cs h0 n0) (s₁.setTop (mkF m 29 #[.val (.int p1), .val (.int ((p1.toUInt32 >>> ((16 : Int32) &&& 31).toUInt32).toInt32)), .val (.int ((((p1.toUInt32 >>> ((8 : Int32) &&& 31).toUInt32).toInt32) &&& (255 : Int32)).toUInt32.toUInt16.toUInt32.toInt32)), .val (.int ((p1 &&& (255 : Int32)).toUInt32.toUInt16.toUInt32.toInt32))] []))
  refine Run.go (fun _ k => XS.iloadN X0.here hx rfl (hb hby d2_29) rfl  k) ?_
  show Run p e below s 3 12 (Q_rm2c Z p1 cs h0 n0) (s₁.setTop (mkF m 30 #[.val (.int p1), .val (.int ((p1.toUInt32 >>> ((16 : Int32) &&& 31).toUInt32).toInt32)), .val (.int ((((p1.toUInt32 >>> ((8 : Int32) &&& 31).toUInt32).toInt32) &&& (255 : Int32)).toUInt32.toUInt16.toUInt32.toInt32)), .val (.int ((p1 &&& (255 : Int32)).toUInt32.toUInt16.toUInt32.toInt32))] [(.int ((p1.toUInt32 >>> ((16 : Int32) &&& 31).toUInt32).toInt32))]))
  refine Run.go (fun _ k => XS.iconst X0.here hx rfl (hb hby d2_30) k) ?_
  show Run p e below s 3 12 (Q_rm2c Z p1 cs h0 n0) (s₁.setTop (mkF m 31 #[.val (.int p1), .val (.int ((p1.toUInt32 >>> ((16 : Int32) &&& 31).toUInt32).toInt32)), .val (.int ((((p1.toUInt32 >>> ((8 : Int32) &&& 31).toUInt32).toInt32) &&& (255 : Int32)).toUInt32.toUInt16.toUInt32.toInt32)), .val (.int ((p1 &&& (255 : Int32)).toUInt32.toUInt16.toUInt32.toInt32))] [(.int (1 : Int32)), (.int ((p1.toUInt32 >>> ((16 : Int32) &&& 31).toUInt32).toInt32))]))
  refine Run.go (fun _ k => XS.icmpYes X0.here hx rfl (pc0 := 31) (pc' := 39) rfl (hb hby d2_31) rfl (feq hc31).2 (by decide) (by decide) k) ?_
  show Run p e below s 3 12 (Q_rm2c Z p1 cs h0 n0) (s₁.setTop (mkF m 39 #[.val (.int p1), .val (.int ((p1.toUInt32 >>> ((16 : Int32) &&& 31).toUInt32).toInt32)), .val (.int ((((p1.toUInt32 >>> ((8 : Int32) &&& 31).toUInt32).toInt32) &&& (255 : Int32)).toUInt32.toUInt16.toUInt32.toInt32)), .val (.int ((p1 &&& (255 : Int32)).toUInt32.toUInt16.toUInt32.toInt32))] []))
  obtain ⟨T2, h2, X2, e2, E2, A2, D2, -, st2⟩ := newO X0 hx hZ hown (hw _ (List.mem_of_getElem? (i := 70) rfl)) (hw _ (List.mem_of_getElem? (i := 14) rfl)) (hw _ (List.mem_of_getElem? (i := 13) rfl)) e0 (g := (mkF m 39 #[.val (.int p1), .val (.int ((p1.toUInt32 >>> ((16 : Int32) &&& 31).toUInt32).toInt32)), .val (.int ((((p1.toUInt32 >>> ((8 : Int32) &&& 31).toUInt32).toInt32) &&& (255 : Int32)).toUInt32.toUInt16.toUInt32.toInt32)), .val (.int ((p1 &&& (255 : Int32)).toUInt32.toUInt16.toUInt32.toInt32))] [])) rfl (hb hby d2_39) (by decide) (by decide)
  obtain ⟨b2, g2⟩ : ∃ z, z = h0.size := ⟨_, rfl⟩
  rw [← g2] at A2 D2 st2
  have g_b2 : n0 ≤ b2 := Nat.le_trans Z0 (Nat.le_of_eq g2.symm)
  have sz_b2 : h0.size ≤ b2 := Nat.le_trans (Keep.refl h0 []).1 (Nat.le_of_eq g2.symm)
  have Z2 : n0 ≤ h2.size := Nat.le_trans Z0 E2.1
  have K2 : Keep h0 h2 [] := (Keep.refl h0 []).ext E2
  have fx3 : Fld Z h2 b2 "java/lang/String" "value" "[B" .null := D2 (Or.inr (hw _ (List.mem_of_getElem? (i := 16) rfl))) (ty := (.array .byte)) (by decide)
  have fx4 : Fld Z h2 b2 "java/lang/String" "coder" "B" (.int (0 : Int32)) := D2 (Or.inr (hw _ (List.mem_of_getElem? (i := 17) rfl))) (ty := .byte) (by decide)
  refine Run.go st2 ?_
  show Run p e below s 3 12 (Q_rm2c Z p1 cs h0 n0) (T2.setTop (mkF m 42 #[.val (.int p1), .val (.int ((p1.toUInt32 >>> ((16 : Int32) &&& 31).toUInt32).toInt32)), .val (.int ((((p1.toUInt32 >>> ((8 : Int32) &&& 31).toUInt32).toInt32) &&& (255 : Int32)).toUInt32.toUInt16.toUInt32.toInt32)), .val (.int ((p1 &&& (255 : Int32)).toUInt32.toUInt16.toUInt32.toInt32))] [(.ref b2)]))
  refine Run.go (fun _ k => XS.dup X2.here hx rfl (hb hby d2_42) rfl rfl k) ?_
  show Run p e below s 3 12 (Q_rm2c Z p1 cs h0 n0) (T2.setTop (mkF m 43 #[.val (.int p1), .val (.int ((p1.toUInt32 >>> ((16 : Int32) &&& 31).toUInt32).toInt32)), .val (.int ((((p1.toUInt32 >>> ((8 : Int32) &&& 31).toUInt32).toInt32) &&& (255 : Int32)).toUInt32.toUInt16.toUInt32.toInt32)), .val (.int ((p1 &&& (255 : Int32)).toUInt32.toUInt16.toUInt32.toInt32))] [(.ref b2), (.ref b2)]))
  refine Run.go (fun _ k => XS.iconst X2.here hx rfl (hb hby d2_43) k) ?_
  show Run p e below s 3 12 (Q_rm2c Z p1 cs h0 n0) (T2.setTop (mkF m 44 #[.val (.int p1), .val (.int ((p1.toUInt32 >>> ((16 : Int32) &&& 31).toUInt32).toInt32)), .val (.int ((((p1.toUInt32 >>> ((8 : Int32) &&& 31).toUInt32).toInt32) &&& (255 : Int32)).toUInt32.toUInt16.toUInt32.toInt32)), .val (.int ((p1 &&& (255 : Int32)).toUInt32.toUInt16.toUInt32.toInt32))] [(.int (2 : Int32)), (.ref b2), (.ref b2)]))
  obtain ⟨T5, h5, k5, X5, e5, E5, A5, st5⟩ := newP X2 hx hZ (hw _ (List.mem_of_getElem? (i := 71) rfl)) e2 (g := (mkF m 44 #[.val (.int p1), .val (.int ((p1.toUInt32 >>> ((16 : Int32) &&& 31).toUInt32).toInt32)), .val (.int ((((p1.toUInt32 >>> ((8 : Int32) &&& 31).toUInt32).toInt32) &&& (255 : Int32)).toUInt32.toUInt16.toUInt32.toInt32)), .val (.int ((p1 &&& (255 : Int32)).toUInt32.toUInt16.toUInt32.toInt32))] [(.int (2 : Int32)), (.ref b2), (.ref b2)])) rfl (hb hby d2_44) rfl (by decide) (cap := 2) (by decide) (by decide) (by decide) (by decide)
  obtain ⟨b5, g5⟩ : ∃ z, z = h2.size := ⟨_, rfl⟩
  rw [← g5] at A5 st5
  have g_b5 : n0 ≤ b5 := Nat.le_trans Z2 (Nat.le_of_eq g5.symm)
  have sz_b5 : h0.size ≤ b5 := Nat.le_trans K2.1 (Nat.le_of_eq g5.symm)
  have Z5 : n0 ≤ h5.size := Nat.le_trans Z2 E5.1
  have K5 : Keep h0 h5 [] := K2.ext E5
  have ne_b2_b5 : b2 ≠ b5 := Nat.ne_of_lt (Nat.lt_of_lt_of_le A2.lt (Nat.le_of_eq g5.symm))
  have fx6 : Ary Z h5 b5 .char 2 (fun _ => (.int (0 : Int32))) := Ary.new A5 (by decide)
  obtain ⟨ff7, hff7⟩ : ∃ f : Nat → Value, f = (fun _ => (.int (0 : Int32))) := ⟨_, rfl⟩
  rw [← hff7] at fx6
  refine Run.go st5 ?_
  show Run p e below s 3 12 (Q_rm2c Z p1 cs h0 n0) (T5.setTop (mkF m 46 #[.val (.int p1), .val (.int ((p1.toUInt32 >>> ((16 : Int32) &&& 31).toUInt32).toInt32)), .val (.int ((((p1.toUInt32 >>> ((8 : Int32) &&& 31).toUInt32).toInt32) &&& (255 : Int32)).toUInt32.toUInt16.toUInt32.toInt32)), .val (.int ((p1 &&& (255 : Int32)).toUInt32.toUInt16.toUInt32.toInt32))] [(.ref b5), (.ref b2), (.ref b2)]))
  refine Run.go (fun _ k => XS.dup X5.here hx rfl (hb hby d2_46) rfl rfl k) ?_
  show Run p e below s 3 12 (Q_rm2c Z p1 cs h0 n0) (T5.setTop (mkF m 47 #[.val (.int p1), .val (.int ((p1.toUInt32 >>> ((16 : Int32) &&& 31).toUInt32).toInt32)), .val (.int ((((p1.toUInt32 >>> ((8 : Int32) &&& 31).toUInt32).toInt32) &&& (255 : Int32)).toUInt32.toUInt16.toUInt32.toInt32)), .val (.int ((p1 &&& (255 : Int32)).toUInt32.toUInt16.toUInt32.toInt32))] [(.ref b5), (.ref b5), (.ref b2), (.ref b2)]))
  refine Run.go (fun _ k => XS.iconst X5.here hx rfl (hb hby d2_47) k) ?_
  show Run p e below s 3 12 (Q_rm2c Z p1 cs h0 n0) (T5.setTop (mkF m 48 #[.val (.int p1), .val (.int ((p1.toUInt32 >>> ((16 : Int32) &&& 31).toUInt32).toInt32)), .val (.int ((((p1.toUInt32 >>> ((8 : Int32) &&& 31).toUInt32).toInt32) &&& (255 : Int32)).toUInt32.toUInt16.toUInt32.toInt32)), .val (.int ((p1 &&& (255 : Int32)).toUInt32.toUInt16.toUInt32.toInt32))] [(.int (0 : Int32)), (.ref b5), (.ref b5), (.ref b2), (.ref b2)]))
  refine Run.go (fun _ k => XS.iloadN X5.here hx rfl (hb hby d2_48) rfl  k) ?_
  show Run p e below s 3 12 (Q_rm2c Z p1 cs h0 n0) (T5.setTop (mkF m 49 #[.val (.int p1), .val (.int ((p1.toUInt32 >>> ((16 : Int32) &&& 31).toUInt32).toInt32)), .val (.int ((((p1.toUInt32 >>> ((8 : Int32) &&& 31).toUInt32).toInt32) &&& (255 : Int32)).toUInt32.toUInt16.toUInt32.toInt32)), .val (.int ((p1 &&& (255 : Int32)).toUInt32.toUInt16.toUInt32.toInt32))] [(.int ((((p1.toUInt32 >>> ((8 : Int32) &&& 31).toUInt32).toInt32) &&& (255 : Int32)).toUInt32.toUInt16.toUInt32.toInt32)), (.int (0 : Int32)), (.ref b5), (.ref b5), (.ref b2), (.ref b2)]))
  obtain ⟨T8, h8, X8, e8, W8, st8⟩ := ary_cset X5 hx hZ e5 fx6 (j := (0 : Int32)) (by decide) (by decide) (g := (mkF m 49 #[.val (.int p1), .val (.int ((p1.toUInt32 >>> ((16 : Int32) &&& 31).toUInt32).toInt32)), .val (.int ((((p1.toUInt32 >>> ((8 : Int32) &&& 31).toUInt32).toInt32) &&& (255 : Int32)).toUInt32.toUInt16.toUInt32.toInt32)), .val (.int ((p1 &&& (255 : Int32)).toUInt32.toUInt16.toUInt32.toInt32))] [(.int ((((p1.toUInt32 >>> ((8 : Int32) &&& 31).toUInt32).toInt32) &&& (255 : Int32)).toUInt32.toUInt16.toUInt32.toInt32)), (.int (0 : Int32)), (.ref b5), (.ref b5), (.ref b2), (.ref b2)])) rfl rfl (hb hby d2_49) (y := (((p1.toUInt32 >>> ((8 : Int32) &&& 31).toUInt32).toInt32) &&& (255 : Int32))) (own_ch2 _)
  have N8 := Fr.snoc X8 N0 g_b5
  have Z8 : n0 ≤ h8.size := Nat.le_trans Z5 (Keep.of_wr W8).1
  have K8 : Keep h0 h8 [] := K5.wr W8 (Or.inr sz_b5)
  obtain ⟨Lg8, Xg8, Ng8⟩ := Stand_gen X8 N8
  have fx9 : Ary Z h8 b5 .char 2 (fun i => if i = 0 then (.int (((p1.toUInt32 >>> ((8 : Int32) &&& 31).toUInt32).toInt32) &&& (255 : Int32))) else ff7 i) := fx6.same W8
  obtain ⟨ff10, hff10⟩ : ∃ f : Nat → Value, f = (fun i => if i = 0 then (.int (((p1.toUInt32 >>> ((8 : Int32) &&& 31).toUInt32).toInt32) &&& (255 : Int32))) else ff7 i) := ⟨_, rfl⟩
  rw [← hff10] at fx9
  refine Run.go st8 ?_
  show Run p e below s 3 12 (Q_rm2c Z p1 cs h0 n0) (T8.setTop (mkF m 50 #[.val (.int p1), .val (.int ((p1.toUInt32 >>> ((16 : Int32) &&& 31).toUInt32).toInt32)), .val (.int ((((p1.toUInt32 >>> ((8 : Int32) &&& 31).toUInt32).toInt32) &&& (255 : Int32)).toUInt32.toUInt16.toUInt32.toInt32)), .val (.int ((p1 &&& (255 : Int32)).toUInt32.toUInt16.toUInt32.toInt32))] [(.ref b5), (.ref b2), (.ref b2)]))
  refine Run.go (fun _ k => XS.dup Xg8.here hx rfl (hb hby d2_50) rfl rfl k) ?_
  show Run p e below s 3 12 (Q_rm2c Z p1 cs h0 n0) (T8.setTop (mkF m 51 #[.val (.int p1), .val (.int ((p1.toUInt32 >>> ((16 : Int32) &&& 31).toUInt32).toInt32)), .val (.int ((((p1.toUInt32 >>> ((8 : Int32) &&& 31).toUInt32).toInt32) &&& (255 : Int32)).toUInt32.toUInt16.toUInt32.toInt32)), .val (.int ((p1 &&& (255 : Int32)).toUInt32.toUInt16.toUInt32.toInt32))] [(.ref b5), (.ref b5), (.ref b2), (.ref b2)]))
  refine Run.go (fun _ k => XS.iconst Xg8.here hx rfl (hb hby d2_51) k) ?_
  show Run p e below s 3 12 (Q_rm2c Z p1 cs h0 n0) (T8.setTop (mkF m 52 #[.val (.int p1), .val (.int ((p1.toUInt32 >>> ((16 : Int32) &&& 31).toUInt32).toInt32)), .val (.int ((((p1.toUInt32 >>> ((8 : Int32) &&& 31).toUInt32).toInt32) &&& (255 : Int32)).toUInt32.toUInt16.toUInt32.toInt32)), .val (.int ((p1 &&& (255 : Int32)).toUInt32.toUInt16.toUInt32.toInt32))] [(.int (1 : Int32)), (.ref b5), (.ref b5), (.ref b2), (.ref b2)]))
  refine Run.go (fun _ k => XS.iloadN Xg8.here hx rfl (hb hby d2_52) rfl  k) ?_
  show Run p e below s 3 12 (Q_rm2c Z p1 cs h0 n0) (T8.setTop (mkF m 53 #[.val (.int p1), .val (.int ((p1.toUInt32 >>> ((16 : Int32) &&& 31).toUInt32).toInt32)), .val (.int ((((p1.toUInt32 >>> ((8 : Int32) &&& 31).toUInt32).toInt32) &&& (255 : Int32)).toUInt32.toUInt16.toUInt32.toInt32)), .val (.int ((p1 &&& (255 : Int32)).toUInt32.toUInt16.toUInt32.toInt32))] [(.int ((p1 &&& (255 : Int32)).toUInt32.toUInt16.toUInt32.toInt32)), (.int (1 : Int32)), (.ref b5), (.ref b5), (.ref b2), (.ref b2)]))
  obtain ⟨T11, h11, X11, e11, W11, st11⟩ := ary_cset Xg8 hx hZ e8 fx9 (j := (1 : Int32)) (by decide) (by decide) (g := (mkF m 53 #[.val (.int p1), .val (.int ((p1.toUInt32 >>> ((16 : Int32) &&& 31).toUInt32).toInt32)), .val (.int ((((p1.toUInt32 >>> ((8 : Int32) &&& 31).toUInt32).toInt32) &&& (255 : Int32)).toUInt32.toUInt16.toUInt32.toInt32)), .val (.int ((p1 &&& (255 : Int32)).toUInt32.toUInt16.toUInt32.toInt32))] [(.int ((p1 &&& (255 : Int32)).toUInt32.toUInt16.toUInt32.toInt32)), (.int (1 : Int32)), (.ref b5), (.ref b5), (.ref b2), (.ref b2)])) rfl rfl (hb hby d2_53) (y := (p1 &&& (255 : Int32))) (own_ch2 _)
  have N11 := Fr.snoc X11 Ng8 g_b5
  have Z11 : n0 ≤ h11.size := Nat.le_trans Z8 (Keep.of_wr W11).1
  have K11 : Keep h0 h11 [] := K8.wr W11 (Or.inr sz_b5)
  obtain ⟨Lg11, Xg11, Ng11⟩ := Stand_gen X11 N11
  have fx12 : Ary Z h11 b5 .char 2 (fun i => if i = 1 then (.int (p1 &&& (255 : Int32))) else ff10 i) := fx9.same W11
  obtain ⟨ff13, hff13⟩ : ∃ f : Nat → Value, f = (fun i => if i = 1 then (.int (p1 &&& (255 : Int32))) else ff10 i) := ⟨_, rfl⟩
  rw [← hff13] at fx12
  refine Run.go st11 ?_
  show Run p e below s 3 12 (Q_rm2c Z p1 cs h0 n0) (T11.setTop (mkF m 54 #[.val (.int p1), .val (.int ((p1.toUInt32 >>> ((16 : Int32) &&& 31).toUInt32).toInt32)), .val (.int ((((p1.toUInt32 >>> ((8 : Int32) &&& 31).toUInt32).toInt32) &&& (255 : Int32)).toUInt32.toUInt16.toUInt32.toInt32)), .val (.int ((p1 &&& (255 : Int32)).toUInt32.toUInt16.toUInt32.toInt32))] [(.ref b5), (.ref b2), (.ref b2)]))
  have fx15 := (((A2.ext E5).wr W8).wr W11)
  have fx16 := (((fx3.ext E5).other W8 (Or.inl ne_b2_b5)).other W11 (Or.inl ne_b2_b5))
  have fx17 := (((fx4.ext E5).other W8 (Or.inl ne_b2_b5)).other W11 (Or.inl ne_b2_b5))
  have fx18 := ((((S_String_COMPACT_STRINGS.ext E2).ext E5).wr W8).wr W11)
  obtain ⟨kc19, hkc19⟩ := own_arv fx12 (x := ((p1.toUInt32 >>> ((8 : Int32) &&& 31).toUInt32).toInt32)) (y := p1) (upd_miss hff13 (by decide) (upd_hit hff10)) (upd_hit hff13)
  obtain ⟨_, _, ⟨T14, L14, k14, n14⟩, -, X14, ⟨Lc14, hQ14, l14, y14, z14⟩, st14⟩ := Xg11.specialBack hx (y := (⟨"java/lang/String", "<init>", "([C)V"⟩ : MethodName)) rfl hown (mvT hZ (hw _ (List.mem_of_getElem? (i := 72) rfl))) (mvT hZ (hw _ (List.mem_of_getElem? (i := 73) rfl))) (mvT hZ (hw _ (List.mem_of_getElem? (i := 74) rfl))) (by decide) (StrChars.Road.backV (W := 1) hZ (fun d hd => hw d (own_words d hd)) (kI := 4) (hw _ (List.mem_of_getElem? (i := 14) rfl)) (cs := [(((p1.toUInt32 >>> ((8 : Int32) &&& 31).toUInt32).toInt32) &&& (255 : Int32)), (p1 &&& (255 : Int32))]) (bs := [(((p1.toUInt32 >>> ((8 : Int32) &&& 31).toUInt32).toInt32) &&& (255 : Int32)).toInt8.toInt32, (p1 &&& (255 : Int32)).toInt8.toInt32]) (n := 2) (n0 := n0) g_b2 Z11 fx15 fx16 fx17 hkc19 fx18 hcs rfl rfl (by decide) (by decide) (by intro c hc; simp only [List.mem_cons, List.not_mem_nil, or_false] at hc; rcases hc with rfl | rfl <;> exact ⟨own_ch0 _, own_ch _⟩) rfl (by decide) (by decide)) (g := (mkF m 54 #[.val (.int p1), .val (.int ((p1.toUInt32 >>> ((16 : Int32) &&& 31).toUInt32).toInt32)), .val (.int ((((p1.toUInt32 >>> ((8 : Int32) &&& 31).toUInt32).toInt32) &&& (255 : Int32)).toUInt32.toUInt16.toUInt32.toInt32)), .val (.int ((p1 &&& (255 : Int32)).toUInt32.toUInt16.toUInt32.toInt32))] [(.ref b5), (.ref b2), (.ref b2)])) rfl (by rw [hml]; rfl) (Steps.refl _) (a := b2) (argsL := [(.ref b5)]) (rest := [(.ref b2)]) (lenOf pd_4 rfl) rfl (by show 2 * 0 + _ ≤ _; exact Nat.le_of_eq rfl) (hb hby d2_54) (fun _ _ => ⟨rfl, e11, (by decide : 2 + 1 ≤ _), (by decide : 6 + 2 ≤ _)⟩)
  dsimp only [Pt.U, Pt.locs, Pt.cells, Pt.slots] at X14 l14 y14 z14 st14 hQ14
  subst l14 y14 z14
  obtain ⟨rfl, N14q, K14q, fq14_0, hp14_rest⟩ := hQ14
  have N14 := Fr.app Ng11 N14q
  have K14 : Keep h0 T14.heap [] := K11.trans K14q (allS (Or.inr sz_b2) all0)
  have Z14 : n0 ≤ T14.heap.size := Nat.le_trans Z11 K14q.1
  obtain ⟨Lg14, Xg14, Ng14⟩ := Stand_gen X14 N14
  refine Run.tr st14 ?_
  show Run p e below s 3 12 (Q_rm2c Z p1 cs h0 n0) (T14.setTop (mkF m 57 #[.val (.int p1), .val (.int ((p1.toUInt32 >>> ((16 : Int32) &&& 31).toUInt32).toInt32)), .val (.int ((((p1.toUInt32 >>> ((8 : Int32) &&& 31).toUInt32).toInt32) &&& (255 : Int32)).toUInt32.toUInt16.toUInt32.toInt32)), .val (.int ((p1 &&& (255 : Int32)).toUInt32.toUInt16.toUInt32.toInt32))] [(.ref b2)]))
  refine Run.retA Xg14 hx rfl Bd.returns rfl Bd.notSynchronized (hb hby d2_57) (by decide) (by decide) ?_
  show Q_rm2c Z p1 cs h0 n0 _ T14.heap _
  exact ⟨_, rfl, Ng14, K14, own_s2 n0 _ hc23 hc31 fq14_0 hp14_rest⟩
def own_EL : List (String × Nat) := [("com/example/subjectory/subjectory/heading/ClassLinkEqualsPinLaw", 11)]
theorem own_ew {Z : State} {a0 : Array Value} (hw : ∀ d ∈ tables_1, d.before a0 Z = true) : EW Z a0 own_EL := EW.cons (hw _ (List.mem_of_getElem? (i := 12) rfl)) (by decide) EW.nil
theorem own_atoms : ∀ d ∈ Bundle.stringAtoms, d ∈ tables_1 := by decide +kernel
theorem own_wS {Z : State} {a0 : Array Value} (hw : ∀ d ∈ tables_1, d.before a0 Z = true) : ∀ a ∈ Bundle.stringAtoms, a.before a0 Z = true := fun d hd => hw d (own_atoms d hd)
theorem d2_26 : decode method_3_code 26 = .ok (.ldc 11, 2) := by decide +kernel
theorem d2_28 : decode method_3_code 28 = .ok (.areturn, 1) := by decide +kernel
def Q_rm2a (Z : State) (p1 : Int32) (cs : Int32) (h0 : Heap) (n0 : Nat) (v : Option Value) (h : Heap) (L : List Loc) : Prop := ∃ x : Addr, v = some (.ref x) ∧ Fr n0 L ∧ Keep h0 h [] ∧ SStr Z h x (own_cs p1)
theorem ef_rm2a (m : MethodId) (x0 : Int32) : entryFrame m #[(.int x0)] 4 = mkF m 0 #[.val (.int x0), .unset, .unset, .unset] [] := by first | (simp [entryFrame, mkF, argsToLocals, Value.category]; done) | rfl
set_option maxRecDepth 65536 in
set_option maxHeartbeats 40000000 in
theorem rm2a (l : Launch) (Z : State) (a0 : Array Value) (hw : ∀ d ∈ tables_1, d.before a0 Z = true) (ws : List Jvm.Cond) (p1 : Int32) (cs : Int32) (h0 : Heap) (n0 : Nat) (Z0 : n0 ≤ h0.size) (S_String_COMPACT_STRINGS : Sta Z h0 "java/lang/String" "COMPACT_STRINGS" "Z" (.int cs)) (hcs : ¬ (cs = (0 : Int32))) (hc23 : (((p1.toUInt32 >>> ((16 : Int32) &&& 31).toUInt32).toInt32) = (0 : Int32))) :
    MetFree l (⟨"com/example/subjectory/subjectory/heading/ClassLinkEqualsPinLaw", "str", "(I)Ljava/lang/String;"⟩ : MethodName) (head1 (Jvm.Cond.code (⟨"com/example/subjectory/subjectory/heading/ClassLinkEqualsPinLaw", "str", "(I)Ljava/lang/String;"⟩ : MethodName) method_3_code 4 (some (.object "java/lang/String")) :: ws) ({ frames := 5, cells := 3, slots := 12, locals := 80 } : Room)) (fun a U => a = #[(.int p1)] ∧ Z.Warmed39 U.vm ∧ U.heap = h0 ∧ CHv Z own_EL U.vm h0) (fun _ _ _ _ _ => True) (fun _ U o U' => ∃ v L, o = .returned v ∧ Q_rm2a Z p1 cs h0 n0 v U'.heap L ∧ CHr Z own_EL U.vm U.heap U'.vm U'.heap ∧ ReturnedEndW U o U' L ({ frames := 5, cells := 3, slots := 12, locals := 80 } : Room).cells ({ frames := 5, cells := 3, slots := 12, locals := 80 } : Room).slots) := by
  refine MetFree.of_bodySF (plainFor_of_name pn_2) hisR ?_
  intro p e s m args below meth c s₁ Bd hml0 hP hK
  obtain ⟨rfl, hZ, hh, hCH⟩ := hP
  have hx := Bd.exec
  have hby := Bd.bytes
  have hml : c.maxLocals = 4 := hml0
  have hown : (s.setVm s.vm).vm.findClass "com/example/subjectory/subjectory/heading/ClassLinkEqualsPinLaw" = some m.cls := findClass_of_methodNamed Bd.named
  have hnm := (name_of_methodNamed Bd.named Bd.method).1
  have X0 : Stand p l e ({ frames := 5, cells := 3, slots := 12, locals := 80 } : Room) (s.setVm s.vm) m #[(.int p1)] below meth c s₁ [] 0 0 := Stand.of_body Bd
  have e0 : s₁.heap = h0 := by rw [← hh, Bd.state]; rfl
  have N0 := Fr.nil n0
  have hS : s.Since s.vm 0 := (State.WarmedH.refl s).since 0
  have hk : 0 ≤ h0.size := Nat.zero_le _
  have C0 : CHr Z own_EL s.vm s.heap s.vm h0 := by rw [hh]; exact CHr.refl hCH
  show RunW p e below s Z own_EL 3 12 (Q_rm2a Z p1 cs h0 n0) (s₁.setTop (entryFrame m #[(.int p1)] 4))
  refine RunW.go (fun _ k => castTop (ef_rm2a m p1) k) ?_
  show RunW p e below s Z own_EL 3 12 (Q_rm2a Z p1 cs h0 n0) (s₁.setTop (mkF m 0 #[.val (.int p1), .unset, .unset, .unset] []))
  refine RunW.go (fun _ k => XS.iloadN X0.here hx rfl (hb hby d2_0) rfl  k) ?_
  show RunW p e below s Z own_EL 3 12 (Q_rm2a Z p1 cs h0 n0) (s₁.setTop (mkF m 1 #[.val (.int p1), .unset, .unset, .unset] [(.int p1)]))
  refine RunW.go (fun _ k => XS.bipush X0.here hx rfl (hb hby d2_1) k) ?_
  show RunW p e below s Z own_EL 3 12 (Q_rm2a Z p1 cs h0 n0) (s₁.setTop (mkF m 3 #[.val (.int p1), .unset, .unset, .unset] [(.int (16 : Int32)), (.int p1)]))
  refine RunW.go (fun _ k => XS.iushr X0.here hx rfl (hb hby d2_3) rfl k) ?_
  show RunW p e below s Z own_EL 3 12 (Q_rm2a Z p1 cs h0 n0) (s₁.setTop (mkF m 4 #[.val (.int p1), .unset, .unset, .unset] [(.int ((p1.toUInt32 >>> ((16 : Int32) &&& 31).toUInt32).toInt32))]))
  refine RunW.go (fun _ k => XS.istoreN X0.here hx rfl (hb hby d2_4) rfl (l' := #[.val (.int p1), .val (.int ((p1.toUInt32 >>> ((16 : Int32) &&& 31).toUInt32).toInt32)), .unset, .unset]) rfl k) ?_
  show RunW p e below s Z own_EL 3 12 (Q_rm2a Z p1 cs h0 n0) (s₁.setTop (mkF m 5 #[.val (.int p1), .val (.int ((p1.toUInt32 >>> ((16 : Int32) &&& 31).toUInt32).toInt32)), .unset, .unset] []))
  refine RunW.go (fun _ k => XS.iloadN X0.here hx rfl (hb hby d2_5) rfl  k) ?_
  show RunW p e below s Z own_EL 3 12 (Q_rm2a Z p1 cs h0 n0) (s₁.setTop (mkF m 6 #[.val (.int p1), .val (.int ((p1.toUInt32 >>> ((16 : Int32) &&& 31).toUInt32).toInt32)), .unset, .unset] [(.int p1)]))
  refine RunW.go (fun _ k => XS.bipush X0.here hx rfl (hb hby d2_6) k) ?_
  show RunW p e below s Z own_EL 3 12 (Q_rm2a Z p1 cs h0 n0) (s₁.setTop (mkF m 8 #[.val (.int p1), .val (.int ((p1.toUInt32 >>> ((16 : Int32) &&& 31).toUInt32).toInt32)), .unset, .unset] [(.int (8 : Int32)), (.int p1)]))
  refine RunW.go (fun _ k => XS.iushr X0.here hx rfl (hb hby d2_8) rfl k) ?_
  show RunW p e below s Z own_EL 3 12 (Q_rm2a Z p1 cs h0 n0) (s₁.setTop (mkF m 9 #[.val (.int p1), .val (.int ((p1.toUInt32 >>> ((16 : Int32) &&& 31).toUInt32).toInt32)), .unset, .unset] [(.int ((p1.toUInt32 >>> ((8 : Int32) &&& 31).toUInt32).toInt32))]))
  refine RunW.go (fun _ k => XS.sipush X0.here hx rfl (hb hby d2_9) k) ?_
  show RunW p e below s Z own_EL 3 12 (Q_rm2a Z p1 cs h0 n0) (s₁.setTop (mkF m 12 #[.val (.int p1), .val (.int ((p1.toUInt32 >>> ((16 : Int32) &&& 31).toUInt32).toInt32)), .unset, .unset] [(.int (255 : Int32)), (.int ((p1.toUInt32 >>> ((8 : Int32) &&& 31).toUInt32).toInt32))]))
  refine RunW.go (fun _ k => XS.iand X0.here hx rfl (hb hby d2_12) rfl k) ?_
  show RunW p e below s Z own_EL 3 12 (Q_rm2a Z p1 cs h0 n0) (s₁.setTop (mkF m 13 #[.val (.int p1), .val (.int ((p1.toUInt32 >>> ((16 : Int32) &&& 31).toUInt32).toInt32)), .unset, .unset] [(.int (((p1.toUInt32 >>> ((8 : Int32) &&& 31).toUInt32).toInt32) &&& (255 : Int32)))]))
  refine RunW.go (fun _ k => XS.i2c X0.here hx rfl (hb hby d2_13) rfl k) ?_
  show RunW p e below s Z own_EL 3 12 (Q_rm2a Z p1 cs h0 n0) (s₁.setTop (mkF m 14 #[.val (.int p1), .val (.int ((p1.toUInt32 >>> ((16 : Int32) &&& 31).toUInt32).toInt32)), .unset, .unset] [(.int ((((p1.toUInt32 >>> ((8 : Int32) &&& 31).toUInt32).toInt32) &&& (255 : Int32)).toUInt32.toUInt16.toUInt32.toInt32))]))
  refine RunW.go (fun _ k => XS.istoreN X0.here hx rfl (hb hby d2_14) rfl (l' := #[.val (.int p1), .val (.int ((p1.toUInt32 >>> ((16 : Int32) &&& 31).toUInt32).toInt32)), .val (.int ((((p1.toUInt32 >>> ((8 : Int32) &&& 31).toUInt32).toInt32) &&& (255 : Int32)).toUInt32.toUInt16.toUInt32.toInt32)), .unset]) rfl k) ?_
  show RunW p e below s Z own_EL 3 12 (Q_rm2a Z p1 cs h0 n0) (s₁.setTop (mkF m 15 #[.val (.int p1), .val (.int ((p1.toUInt32 >>> ((16 : Int32) &&& 31).toUInt32).toInt32)), .val (.int ((((p1.toUInt32 >>> ((8 : Int32) &&& 31).toUInt32).toInt32) &&& (255 : Int32)).toUInt32.toUInt16.toUInt32.toInt32)), .unset] []))
  refine RunW.go (fun _ k => XS.iloadN X0.here hx rfl (hb hby d2_15) rfl  k) ?_
  show RunW p e below s Z own_EL 3 12 (Q_rm2a Z p1 cs h0 n0) (s₁.setTop (mkF m 16 #[.val (.int p1), .val (.int ((p1.toUInt32 >>> ((16 : Int32) &&& 31).toUInt32).toInt32)), .val (.int ((((p1.toUInt32 >>> ((8 : Int32) &&& 31).toUInt32).toInt32) &&& (255 : Int32)).toUInt32.toUInt16.toUInt32.toInt32)), .unset] [(.int p1)]))
  refine RunW.go (fun _ k => XS.sipush X0.here hx rfl (hb hby d2_16) k) ?_
  show RunW p e below s Z own_EL 3 12 (Q_rm2a Z p1 cs h0 n0) (s₁.setTop (mkF m 19 #[.val (.int p1), .val (.int ((p1.toUInt32 >>> ((16 : Int32) &&& 31).toUInt32).toInt32)), .val (.int ((((p1.toUInt32 >>> ((8 : Int32) &&& 31).toUInt32).toInt32) &&& (255 : Int32)).toUInt32.toUInt16.toUInt32.toInt32)), .unset] [(.int (255 : Int32)), (.int p1)]))
  refine RunW.go (fun _ k => XS.iand X0.here hx rfl (hb hby d2_19) rfl k) ?_
  show RunW p e below s Z own_EL 3 12 (Q_rm2a Z p1 cs h0 n0) (s₁.setTop (mkF m 20 #[.val (.int p1), .val (.int ((p1.toUInt32 >>> ((16 : Int32) &&& 31).toUInt32).toInt32)), .val (.int ((((p1.toUInt32 >>> ((8 : Int32) &&& 31).toUInt32).toInt32) &&& (255 : Int32)).toUInt32.toUInt16.toUInt32.toInt32)), .unset] [(.int (p1 &&& (255 : Int32)))]))
  refine RunW.go (fun _ k => XS.i2c X0.here hx rfl (hb hby d2_20) rfl k) ?_
  show RunW p e below s Z own_EL 3 12 (Q_rm2a Z p1 cs h0 n0) (s₁.setTop (mkF m 21 #[.val (.int p1), .val (.int ((p1.toUInt32 >>> ((16 : Int32) &&& 31).toUInt32).toInt32)), .val (.int ((((p1.toUInt32 >>> ((8 : Int32) &&& 31).toUInt32).toInt32) &&& (255 : Int32)).toUInt32.toUInt16.toUInt32.toInt32)), .unset] [(.int ((p1 &&& (255 : Int32)).toUInt32.toUInt16.toUInt32.toInt32))]))
  refine RunW.go (fun _ k => XS.istoreN X0.here hx rfl (hb hby d2_21) rfl (l' := #[.val (.int p1), .val (.int ((p1.toUInt32 >>> ((16 : Int32) &&& 31).toUInt32).toInt32)), .val (.int ((((p1.toUInt32 >>> ((8 : Int32) &&& 31).toUInt32).toInt32) &&& (255 : Int32)).toUInt32.toUInt16.toUInt32.toInt32)), .val (.int ((p1 &&& (255 : Int32)).toUInt32.toUInt16.toUInt32.toInt32))]) rfl k) ?_
  show RunW p e below s Z own_EL 3 12 (Q_rm2a Z p1 cs h0 n0) (s₁.setTop (mkF m 22 #[.val (.int p1), .val (.int ((p1.toUInt32 >>> ((16 : Int32) &&& 31).toUInt32).toInt32)), .val (.int ((((p1.toUInt32 >>> ((8 : Int32) &&& 31).toUInt32).toInt32) &&& (255 : Int32)).toUInt32.toUInt16.toUInt32.toInt32)), .val (.int ((p1 &&& (255 : Int32)).toUInt32.toUInt16.toUInt32.toInt32))] []))
  refine RunW.go (fun _ k => XS.iloadN X0.here hx rfl (hb hby d2_22) rfl  k) ?_
  show RunW p e below s Z own_EL 3 12 (Q_rm2a Z p1 cs h0 n0) (s₁.setTop (mkF m 23 #[.val (.int p1), .val (.int ((p1.toUInt32 >>> ((16 : Int32) &&& 31).toUInt32).toInt32)), .val (.int ((((p1.toUInt32 >>> ((8 : Int32) &&& 31).toUInt32).toInt32) &&& (255 : Int32)).toUInt32.toUInt16.toUInt32.toInt32)), .val (.int ((p1 &&& (255 : Int32)).toUInt32.toUInt16.toUInt32.toInt32))] [(.int ((p1.toUInt32 >>> ((16 : Int32) &&& 31).toUInt32).toInt32))]))
  refine RunW.go (fun _ k => XS.ifNo X0.here hx rfl (hb hby d2_23) rfl ((if0 _ _).trans (teq hc23).2) k) ?_
  show RunW p e below s Z own_EL 3 12 (Q_rm2a Z p1 cs h0 n0) (s₁.setTop (mkF m 26 #[.val (.int p1), .val (.int ((p1.toUInt32 >>> ((16 : Int32) &&& 31).toUInt32).toInt32)), .val (.int ((((p1.toUInt32 >>> ((8 : Int32) &&& 31).toUInt32).toInt32) &&& (255 : Int32)).toUInt32.toUInt16.toUInt32.toInt32)), .val (.int ((p1 &&& (255 : Int32)).toUInt32.toUInt16.toUInt32.toInt32))] []))
  obtain ⟨a2, T2, h2, k2, b2, kb2, X2, e2, E2, hS, hk, hZ, hown, Ex2, Fc2, Fv2, Ka2, -, -, C2q, -, -, st2⟩ := ldcCH X0 hx hZ hown (hw _ (List.mem_of_getElem? (i := 12) rfl)) (own_wS hw) e0 hS hk (own_ew hw) (by decide) C0.1 (vs := []) (z := 0) ⟨by decide, rfl⟩ (by decide) rfl (g := (mkF m 26 #[.val (.int p1), .val (.int ((p1.toUInt32 >>> ((16 : Int32) &&& 31).toUInt32).toInt32)), .val (.int ((((p1.toUInt32 >>> ((8 : Int32) &&& 31).toUInt32).toInt32) &&& (255 : Int32)).toUInt32.toUInt16.toUInt32.toInt32)), .val (.int ((p1 &&& (255 : Int32)).toUInt32.toUInt16.toUInt32.toInt32))] [])) rfl (hb hby d2_26) (n := 0) (by decide) (by decide) (by decide : 0 + 2 ≤ _) (by decide : 0 + 4 ≤ _)
  have C3 := C0.trans C2q
  have Z2 : n0 ≤ h2.size := Nat.le_trans Z0 E2.1
  have K2 : Keep h0 h2 [] := (Keep.refl h0 []).ext E2
  refine RunW.go st2 ?_
  have ss2 : SStr Z h2 a2 [] := ⟨_, _, Ex2, Fv2, Fc2, Ka2, (fun c hc => by cases hc), by decide⟩
  show RunW p e below s Z own_EL 3 12 (Q_rm2a Z p1 cs h0 n0) (T2.setTop (mkF m 28 #[.val (.int p1), .val (.int ((p1.toUInt32 >>> ((16 : Int32) &&& 31).toUInt32).toInt32)), .val (.int ((((p1.toUInt32 >>> ((8 : Int32) &&& 31).toUInt32).toInt32) &&& (255 : Int32)).toUInt32.toUInt16.toUInt32.toInt32)), .val (.int ((p1 &&& (255 : Int32)).toUInt32.toUInt16.toUInt32.toInt32))] [(.ref a2)]))
  refine RunW.retA X2 hx hZ (own_ew hw) hS hk e2 C3 rfl Bd.returns rfl Bd.notSynchronized (hb hby d2_28) (by decide) (by decide) ?_
  show Q_rm2a Z p1 cs h0 n0 _ T2.heap _
  rw [e2]
  exact ⟨_, rfl, N0, K2, (by rw [own_cs, if_pos (show own_ln p1 = 0 from hc23)]; exact ss2)⟩
theorem rm2 (l : Launch) (Z : State) (a0 : Array Value) (hw : ∀ d ∈ tables_1, d.before a0 Z = true) (ws : List Jvm.Cond) (p1 cs : Int32) (h0 : Heap) (n0 : Nat) (Z0 : n0 ≤ h0.size) (S_String_COMPACT_STRINGS : Sta Z h0 "java/lang/String" "COMPACT_STRINGS" "Z" (.int cs)) (hcs : ¬ (cs = (0 : Int32))) :
    MetFree l (⟨"com/example/subjectory/subjectory/heading/ClassLinkEqualsPinLaw", "str", "(I)Ljava/lang/String;"⟩ : MethodName) (head1 (Jvm.Cond.code (⟨"com/example/subjectory/subjectory/heading/ClassLinkEqualsPinLaw", "str", "(I)Ljava/lang/String;"⟩ : MethodName) method_3_code 4 (some (.object "java/lang/String")) :: ws) ({ frames := 5, cells := 3, slots := 12, locals := 80 } : Room)) (fun a U => a = #[(.int p1)] ∧ Z.Warmed39 U.vm ∧ U.heap = h0 ∧ CHv Z own_EL U.vm h0) (fun _ _ _ _ _ => True) (fun _ U o U' => ∃ v L, o = .returned v ∧ Q_rm2a Z p1 cs h0 n0 v U'.heap L ∧ CHr Z own_EL U.vm U.heap U'.vm U'.heap ∧ ReturnedEndW U o U' L ({ frames := 5, cells := 3, slots := 12, locals := 80 } : Room).cells ({ frames := 5, cells := 3, slots := 12, locals := 80 } : Room).slots) := by
  by_cases hc23 : own_ln p1 = 0
  · exact rm2a l Z a0 hw ws p1 cs h0 n0 Z0 S_String_COMPACT_STRINGS hcs hc23
  · by_cases hc31 : own_ln p1 = 1
    · exact coldOf (rm2b l Z a0 hw ws p1 cs h0 n0 Z0 S_String_COMPACT_STRINGS hcs hc23 hc31) (fun v h L q => by obtain ⟨_, _, _, K, _⟩ := q; exact K) (own_ew hw)
    · exact coldOf (rm2c l Z a0 hw ws p1 cs h0 n0 Z0 S_String_COMPACT_STRINGS hcs hc23 hc31) (fun v h L q => by obtain ⟨_, _, _, K, _⟩ := q; exact K) (own_ew hw)
theorem d9_0 : decode jdk_31_method_11_code 0 = .ok (.aload_n 0, 1) := by decide +kernel
theorem d9_1 : decode jdk_31_method_11_code 1 = .ok (.ifnonnull 12, 3) := by decide +kernel
theorem d9_13 : decode jdk_31_method_11_code 13 = .ok (.aload_n 0, 1) := by decide +kernel
theorem d9_14 : decode jdk_31_method_11_code 14 = .ok (.areturn, 1) := by decide +kernel
def Q_rm9 (Z : State) (a1 : Addr) (a2 : Addr) (h0 : Heap) (n0 : Nat) (v : Option Value) (h : Heap) (L : List Loc) : Prop := v = some (.ref a1) ∧ Fr n0 L ∧ h = h0
theorem ef_rm9 (m : MethodId) (x0 : Addr) (x1 : Addr) : entryFrame m #[(.ref x0), (.ref x1)] 2 = mkF m 0 #[.val (.ref x0), .val (.ref x1)] [] := by first | (simp [entryFrame, mkF, argsToLocals, Value.category]; done) | rfl
theorem pn_3 : plainName "java/util/Objects" = true := by first | (simp [plainName, overriddenIn]; done) | decide +kernel
set_option maxRecDepth 65536 in
set_option maxHeartbeats 40000000 in
theorem rm9 (l : Launch) (Z : State) (a0 : Array Value) (hw : ∀ d ∈ tables_1, d.before a0 Z = true) (ws : List Jvm.Cond) (a1 : Addr) (a2 : Addr) (h0 : Heap) (n0 : Nat) (Z0 : n0 ≤ h0.size)  :
    MetFree l (⟨"java/util/Objects", "requireNonNull", "(Ljava/lang/Object;Ljava/lang/String;)Ljava/lang/Object;"⟩ : MethodName) (head1 (Jvm.Cond.code (⟨"java/util/Objects", "requireNonNull", "(Ljava/lang/Object;Ljava/lang/String;)Ljava/lang/Object;"⟩ : MethodName) jdk_31_method_11_code 2 (some (.object "java/lang/Object")) :: ws) ({ frames := 0, cells := 0, slots := 0, locals := 0 } : Room)) (fun a U => a = #[(.ref a1), (.ref a2)] ∧ Z.Warmed39 U.vm ∧ U.heap = h0) (fun _ _ _ _ _ => True) (fun _ U o U' => ∃ v L, o = .returned v ∧ Q_rm9 Z a1 a2 h0 n0 v U'.heap L ∧ FrameEnd U o U' L ({ frames := 0, cells := 0, slots := 0, locals := 0 } : Room).cells ({ frames := 0, cells := 0, slots := 0, locals := 0 } : Room).slots) := by
  refine MetFree.of_bodySF (plainFor_of_name pn_3) hisR ?_
  intro p e s m args below meth c s₁ Bd hml0 hP hK
  obtain ⟨rfl, hZ, hh⟩ := hP
  have hx := Bd.exec
  have hby := Bd.bytes
  have hml : c.maxLocals = 2 := hml0
  have hown : s.vm.findClass "java/util/Objects" = some m.cls := findClass_of_methodNamed Bd.named
  have hnm := (name_of_methodNamed Bd.named Bd.method).1
  have X0 : Stand p l e ({ frames := 0, cells := 0, slots := 0, locals := 0 } : Room) s m #[(.ref a1), (.ref a2)] below meth c s₁ [] 0 0 := Stand.of_body Bd
  have e0 : s₁.heap = h0 := by rw [← hh, Bd.state]; rfl
  have N0 := Fr.nil n0
  show Run p e below s 0 0 (Q_rm9 Z a1 a2 h0 n0) (s₁.setTop (entryFrame m #[(.ref a1), (.ref a2)] 2))
  refine Run.go (fun _ k => castTop (ef_rm9 m a1 a2) k) ?_
  show Run p e below s 0 0 (Q_rm9 Z a1 a2 h0 n0) (s₁.setTop (mkF m 0 #[.val (.ref a1), .val (.ref a2)] []))
  refine Run.go (fun _ k => XS.aloadN X0.here hx rfl (hb hby d9_0) rfl rfl k) ?_
  show Run p e below s 0 0 (Q_rm9 Z a1 a2 h0 n0) (s₁.setTop (mkF m 1 #[.val (.ref a1), .val (.ref a2)] [(.ref a1)]))
  refine Run.go (fun _ k => XS.ifnonnullYes X0.here hx rfl (pc0 := 1) (pc' := 13) rfl (hb hby d9_1) rfl (by decide) (by decide) k) ?_
  show Run p e below s 0 0 (Q_rm9 Z a1 a2 h0 n0) (s₁.setTop (mkF m 13 #[.val (.ref a1), .val (.ref a2)] []))
  refine Run.go (fun _ k => XS.aloadN X0.here hx rfl (hb hby d9_13) rfl rfl k) ?_
  show Run p e below s 0 0 (Q_rm9 Z a1 a2 h0 n0) (s₁.setTop (mkF m 14 #[.val (.ref a1), .val (.ref a2)] [(.ref a1)]))
  refine Run.retA X0 hx rfl Bd.returns rfl Bd.notSynchronized (hb hby d9_14) (by decide) (by decide) ?_
  show Q_rm9 Z a1 a2 h0 n0 _ s₁.heap _
  exact ⟨rfl, N0, e0⟩
theorem own_wE : ∀ d ∈ StrChars.Road.wordsEmp, d ∈ tables_1 := by decide +kernel
theorem own_wQ : ∀ d ∈ StrChars.Road.wordsEq, d ∈ tables_1 := by decide +kernel
theorem own_cod {cs : List Int32} (hb : ∀ c ∈ cs, ¬ c < 0 ∧ ¬ (255 : Int32) < c) : StrChars.Road.CodA cs 0 (Int32.ofNat cs.length) (cs.map (fun c => Value.int c.toInt8.toInt32)) := Or.inl ⟨rfl, rfl, rfl, fun c hc => (hb c hc).2⟩
theorem own_up {cs : List Int32} (hb : ∀ c ∈ cs, ¬ c < 0 ∧ ¬ (255 : Int32) < c) : ∀ c ∈ cs, ¬ c < 0 ∧ ¬ (65535 : Int32) < c := fun c hc => ⟨(hb c hc).1, fun q => (hb c hc).2 (by
  have e1 : (65535 : Int32).toInt = 65535 := rfl
  have e2 : (255 : Int32).toInt = 255 := rfl
  rw [Int32.lt_iff_toInt_lt] at *; omega)⟩
theorem d8_0 : decode prog_4_method_1_code 0 = .ok (.aload_n 0, 1) := by decide +kernel
theorem d8_1 : decode prog_4_method_1_code 1 = .ok (.invokespecial 1, 3) := by decide +kernel
theorem d8_4 : decode prog_4_method_1_code 4 = .ok (.aload_n 2, 1) := by decide +kernel
theorem d8_5 : decode prog_4_method_1_code 5 = .ok (.ldc 7, 2) := by decide +kernel
theorem d8_7 : decode prog_4_method_1_code 7 = .ok (.invokestatic 9, 3) := by decide +kernel
theorem pd_5 : parseMethodDescriptor "(Ljava/lang/Object;Ljava/lang/String;)Ljava/lang/Object;" = some ⟨[(.object "java/lang/Object"), (.object "java/lang/String")], some (.object "java/lang/Object")⟩ := by decide +kernel
theorem d8_10 : decode prog_4_method_1_code 10 = .ok (.checkcast 15, 3) := by decide +kernel
theorem d8_13 : decode prog_4_method_1_code 13 = .ok (.invokevirtual 17, 3) := by decide +kernel
theorem pd_6 : parseMethodDescriptor "()Z" = some ⟨[], some .boolean⟩ := by decide +kernel
theorem d8_16 : decode prog_4_method_1_code 16 = .ok (.ifCond .ne 19, 3) := by decide +kernel
theorem d8_19 : decode prog_4_method_1_code 19 = .ok (.aload 5, 2) := by decide +kernel
theorem d8_21 : decode prog_4_method_1_code 21 = .ok (.ldc 21, 2) := by decide +kernel
theorem d8_23 : decode prog_4_method_1_code 23 = .ok (.invokestatic 9, 3) := by decide +kernel
theorem d8_26 : decode prog_4_method_1_code 26 = .ok (.checkcast 15, 3) := by decide +kernel
theorem d8_29 : decode prog_4_method_1_code 29 = .ok (.invokevirtual 17, 3) := by decide +kernel
theorem d8_32 : decode prog_4_method_1_code 32 = .ok (.ifCond .eq 13, 3) := by decide +kernel
theorem d8_45 : decode prog_4_method_1_code 45 = .ok (.aload_n 0, 1) := by decide +kernel
theorem d8_46 : decode prog_4_method_1_code 46 = .ok (.aload_n 1, 1) := by decide +kernel
theorem d8_47 : decode prog_4_method_1_code 47 = .ok (.ldc 30, 2) := by decide +kernel
theorem d8_49 : decode prog_4_method_1_code 49 = .ok (.invokestatic 9, 3) := by decide +kernel
theorem d8_52 : decode prog_4_method_1_code 52 = .ok (.checkcast 15, 3) := by decide +kernel
theorem d8_55 : decode prog_4_method_1_code 55 = .ok (.putfield 32, 3) := by decide +kernel
theorem d8_58 : decode prog_4_method_1_code 58 = .ok (.aload_n 0, 1) := by decide +kernel
theorem d8_59 : decode prog_4_method_1_code 59 = .ok (.aload_n 2, 1) := by decide +kernel
theorem d8_60 : decode prog_4_method_1_code 60 = .ok (.putfield 37, 3) := by decide +kernel
theorem d8_63 : decode prog_4_method_1_code 63 = .ok (.aload_n 0, 1) := by decide +kernel
theorem d8_64 : decode prog_4_method_1_code 64 = .ok (.aload_n 3, 1) := by decide +kernel
theorem d8_65 : decode prog_4_method_1_code 65 = .ok (.ldc 39, 2) := by decide +kernel
theorem d8_67 : decode prog_4_method_1_code 67 = .ok (.invokestatic 9, 3) := by decide +kernel
theorem d8_70 : decode prog_4_method_1_code 70 = .ok (.checkcast 15, 3) := by decide +kernel
theorem d8_73 : decode prog_4_method_1_code 73 = .ok (.putfield 41, 3) := by decide +kernel
theorem d8_76 : decode prog_4_method_1_code 76 = .ok (.aload_n 0, 1) := by decide +kernel
theorem d8_77 : decode prog_4_method_1_code 77 = .ok (.aload 4, 2) := by decide +kernel
theorem d8_79 : decode prog_4_method_1_code 79 = .ok (.ldc 43, 2) := by decide +kernel
theorem d8_81 : decode prog_4_method_1_code 81 = .ok (.invokestatic 9, 3) := by decide +kernel
theorem d8_84 : decode prog_4_method_1_code 84 = .ok (.checkcast 15, 3) := by decide +kernel
theorem d8_87 : decode prog_4_method_1_code 87 = .ok (.putfield 45, 3) := by decide +kernel
theorem d8_90 : decode prog_4_method_1_code 90 = .ok (.aload_n 0, 1) := by decide +kernel
theorem d8_91 : decode prog_4_method_1_code 91 = .ok (.aload 5, 2) := by decide +kernel
theorem d8_93 : decode prog_4_method_1_code 93 = .ok (.putfield 47, 3) := by decide +kernel
theorem d8_96 : decode prog_4_method_1_code 96 = .ok (.return_, 1) := by decide +kernel
def Q_rm8 (Z : State) (a1 : Addr) (a2 : Addr) (a3 : Addr) (a4 : Addr) (a5 : Addr) (a6 : Addr) (cs3 : List Int32) (cs6 : List Int32) (u_scheme_a1 : Value) (u_number_a1 : Value) (u_caption_a1 : Value) (u_tag_a1 : Value) (u_term_a1 : Value) (h0 : Heap) (n0 : Nat) (v : Option Value) (h : Heap) (L : List Loc) : Prop := v = none ∧ Fr n0 L ∧ Keep h0 h [a1] ∧ Exa Z h a1 "com/example/subjectory/subjectory/heading/ClassLink" ∧ Fld Z h a1 "com/example/subjectory/subjectory/heading/ClassLink" "scheme" "Ljava/lang/String;" (.ref a2) ∧ Fld Z h a1 "com/example/subjectory/subjectory/heading/ClassLink" "number" "Ljava/lang/String;" (.ref a3) ∧ Fld Z h a1 "com/example/subjectory/subjectory/heading/ClassLink" "caption" "Ljava/lang/String;" (.ref a4) ∧ Fld Z h a1 "com/example/subjectory/subjectory/heading/ClassLink" "tag" "Ljava/lang/String;" (.ref a5) ∧ Fld Z h a1 "com/example/subjectory/subjectory/heading/ClassLink" "term" "Ljava/lang/String;" (.ref a6)
theorem ef_rm8 (m : MethodId) (x0 : Addr) (x1 : Addr) (x2 : Addr) (x3 : Addr) (x4 : Addr) (x5 : Addr) : entryFrame m #[(.ref x0), (.ref x1), (.ref x2), (.ref x3), (.ref x4), (.ref x5)] 6 = mkF m 0 #[.val (.ref x0), .val (.ref x1), .val (.ref x2), .val (.ref x3), .val (.ref x4), .val (.ref x5)] [] := by first | (simp [entryFrame, mkF, argsToLocals, Value.category]; done) | rfl
theorem pn_4 : plainName "com/example/subjectory/subjectory/heading/ClassLink" = true := by first | (simp [plainName, overriddenIn]; done) | decide +kernel
set_option maxRecDepth 65536 in
set_option maxHeartbeats 40000000 in
theorem rm8 (l : Launch) (Z : State) (a0 : Array Value) (hw : ∀ d ∈ tables_1, d.before a0 Z = true) (ws : List Jvm.Cond) (a1 : Addr) (a2 : Addr) (a3 : Addr) (a4 : Addr) (a5 : Addr) (a6 : Addr) (cs3 : List Int32) (cs6 : List Int32) (u_scheme_a1 : Value) (u_number_a1 : Value) (u_caption_a1 : Value) (u_tag_a1 : Value) (u_term_a1 : Value) (h0 : Heap) (n0 : Nat) (Z0 : n0 ≤ h0.size) (E_a1 : Exa Z h0 a1 "com/example/subjectory/subjectory/heading/ClassLink") (E_a2 : Exa Z h0 a2 "java/lang/String") (E_a3 : Exa Z h0 a3 "java/lang/String") (E_a4 : Exa Z h0 a4 "java/lang/String") (E_a5 : Exa Z h0 a5 "java/lang/String") (E_a6 : Exa Z h0 a6 "java/lang/String") (hX3 : SStr Z h0 a3 cs3) (hX6 : SStr Z h0 a6 cs6) (hn3 : ¬ cs3.length = 0) (hn6 : ¬ cs6.length = 0) (F_scheme_a1 : Fld Z h0 a1 "com/example/subjectory/subjectory/heading/ClassLink" "scheme" "Ljava/lang/String;" u_scheme_a1) (g_a1 : n0 ≤ a1) (F_number_a1 : Fld Z h0 a1 "com/example/subjectory/subjectory/heading/ClassLink" "number" "Ljava/lang/String;" u_number_a1) (F_caption_a1 : Fld Z h0 a1 "com/example/subjectory/subjectory/heading/ClassLink" "caption" "Ljava/lang/String;" u_caption_a1) (F_tag_a1 : Fld Z h0 a1 "com/example/subjectory/subjectory/heading/ClassLink" "tag" "Ljava/lang/String;" u_tag_a1) (F_term_a1 : Fld Z h0 a1 "com/example/subjectory/subjectory/heading/ClassLink" "term" "Ljava/lang/String;" u_term_a1) :
    MetFree l (⟨"com/example/subjectory/subjectory/heading/ClassLink", "<init>", "(Ljava/lang/String;Ljava/lang/String;Ljava/lang/String;Ljava/lang/String;Ljava/lang/String;)V"⟩ : MethodName) (head1 (Jvm.Cond.code (⟨"com/example/subjectory/subjectory/heading/ClassLink", "<init>", "(Ljava/lang/String;Ljava/lang/String;Ljava/lang/String;Ljava/lang/String;Ljava/lang/String;)V"⟩ : MethodName) prog_4_method_1_code 6 none :: ws) ({ frames := 1, cells := 10, slots := 124, locals := 14 } : Room)) (fun a U => a = #[(.ref a1), (.ref a2), (.ref a3), (.ref a4), (.ref a5), (.ref a6)] ∧ Z.Warmed39 U.vm ∧ U.heap = h0 ∧ CHv Z own_EL U.vm h0) (fun _ _ _ _ _ => True) (fun _ U o U' => ∃ v L, o = .returned v ∧ Q_rm8 Z a1 a2 a3 a4 a5 a6 cs3 cs6 u_scheme_a1 u_number_a1 u_caption_a1 u_tag_a1 u_term_a1 h0 n0 v U'.heap L ∧ CHr Z own_EL U.vm U.heap U'.vm U'.heap ∧ ReturnedEndW U o U' L ({ frames := 1, cells := 10, slots := 124, locals := 14 } : Room).cells ({ frames := 1, cells := 10, slots := 124, locals := 14 } : Room).slots) := by
  refine MetFree.of_bodySF (plainFor_of_name pn_4) hisR ?_
  intro p e s m args below meth c s₁ Bd hml0 hP hK
  obtain ⟨rfl, hZ, hh, hCH⟩ := hP
  have hx := Bd.exec
  have hby := Bd.bytes
  have hml : c.maxLocals = 6 := hml0
  have hown : (s.setVm s.vm).vm.findClass "com/example/subjectory/subjectory/heading/ClassLink" = some m.cls := findClass_of_methodNamed Bd.named
  have hnm := (name_of_methodNamed Bd.named Bd.method).1
  have X0 : Stand p l e ({ frames := 1, cells := 10, slots := 124, locals := 14 } : Room) (s.setVm s.vm) m #[(.ref a1), (.ref a2), (.ref a3), (.ref a4), (.ref a5), (.ref a6)] below meth c s₁ [] 0 0 := Stand.of_body Bd
  have e0 : s₁.heap = h0 := by rw [← hh, Bd.state]; rfl
  have N0 := Fr.nil n0
  have hS : s.Since s.vm 0 := (State.WarmedH.refl s).since 0
  have hk : 0 ≤ h0.size := Nat.zero_le _
  have C0 : CHr Z own_EL s.vm s.heap s.vm h0 := by rw [hh]; exact CHr.refl hCH
  show RunW p e below s Z own_EL 10 124 (Q_rm8 Z a1 a2 a3 a4 a5 a6 cs3 cs6 u_scheme_a1 u_number_a1 u_caption_a1 u_tag_a1 u_term_a1 h0 n0) (s₁.setTop (entryFrame m #[(.ref a1), (.ref a2), (.ref a3), (.ref a4), (.ref a5), (.ref a6)] 6))
  refine RunW.go (fun _ k => castTop (ef_rm8 m a1 a2 a3 a4 a5 a6) k) ?_
  show RunW p e below s Z own_EL 10 124 (Q_rm8 Z a1 a2 a3 a4 a5 a6 cs3 cs6 u_scheme_a1 u_number_a1 u_caption_a1 u_tag_a1 u_term_a1 h0 n0) (s₁.setTop (mkF m 0 #[.val (.ref a1), .val (.ref a2), .val (.ref a3), .val (.ref a4), .val (.ref a5), .val (.ref a6)] []))
  refine RunW.go (fun _ k => XS.aloadN X0.here hx rfl (hb hby d8_0) rfl rfl k) ?_
  show RunW p e below s Z own_EL 10 124 (Q_rm8 Z a1 a2 a3 a4 a5 a6 cs3 cs6 u_scheme_a1 u_number_a1 u_caption_a1 u_tag_a1 u_term_a1 h0 n0) (s₁.setTop (mkF m 1 #[.val (.ref a1), .val (.ref a2), .val (.ref a3), .val (.ref a4), .val (.ref a5), .val (.ref a6)] [(.ref a1)]))
  obtain ⟨T7, X7, e7, st7⟩ := initO X0 hx hZ hown (hw _ (List.mem_of_getElem? (i := 44) rfl)) (hw _ (List.mem_of_getElem? (i := 37) rfl)) (hw _ (List.mem_of_getElem? (i := 38) rfl)) e0 (g := (mkF m 1 #[.val (.ref a1), .val (.ref a2), .val (.ref a3), .val (.ref a4), .val (.ref a5), .val (.ref a6)] [(.ref a1)])) rfl (by rw [hml]; rfl) rfl (hb hby d8_1) (by decide) (W := 0) (by show 2 * 0 + _ ≤ _; exact Nat.le_of_eq rfl) (by decide)
  refine RunW.go st7 ?_
  show RunW p e below s Z own_EL 10 124 (Q_rm8 Z a1 a2 a3 a4 a5 a6 cs3 cs6 u_scheme_a1 u_number_a1 u_caption_a1 u_tag_a1 u_term_a1 h0 n0) (T7.setTop (mkF m 4 #[.val (.ref a1), .val (.ref a2), .val (.ref a3), .val (.ref a4), .val (.ref a5), .val (.ref a6)] []))
  refine RunW.go (fun _ k => XS.aloadN X7.here hx rfl (hb hby d8_4) rfl rfl k) ?_
  show RunW p e below s Z own_EL 10 124 (Q_rm8 Z a1 a2 a3 a4 a5 a6 cs3 cs6 u_scheme_a1 u_number_a1 u_caption_a1 u_tag_a1 u_term_a1 h0 n0) (T7.setTop (mkF m 5 #[.val (.ref a1), .val (.ref a2), .val (.ref a3), .val (.ref a4), .val (.ref a5), .val (.ref a6)] [(.ref a3)]))
  obtain ⟨a8, T8, h8, k8, X8, e8, E8, hS, hk, hZ, hown, C8q, -, st8⟩ := ldcOH X7 hx hZ hown (hw _ (List.mem_of_getElem? (i := 45) rfl)) (own_wS hw) e7 hS hk (own_ew hw) C0.1 (g := (mkF m 5 #[.val (.ref a1), .val (.ref a2), .val (.ref a3), .val (.ref a4), .val (.ref a5), .val (.ref a6)] [(.ref a3)])) rfl (hb hby d8_5) (n := 24) (by decide) (by decide) (by decide : 0 + 2 ≤ _) (by decide : 0 + 28 ≤ _)
  have C9 := C0.trans C8q
  have Z8 : n0 ≤ h8.size := Nat.le_trans Z0 E8.1
  have K8 : Keep h0 h8 [a1] := (Keep.refl h0 [a1]).ext E8
  refine RunW.go st8 ?_
  show RunW p e below s Z own_EL 10 124 (Q_rm8 Z a1 a2 a3 a4 a5 a6 cs3 cs6 u_scheme_a1 u_number_a1 u_caption_a1 u_tag_a1 u_term_a1 h0 n0) (T8.setTop (mkF m 7 #[.val (.ref a1), .val (.ref a2), .val (.ref a3), .val (.ref a4), .val (.ref a5), .val (.ref a6)] [(.ref a8), (.ref a3)]))
  obtain ⟨_, _, ⟨T10, L10, k10, n10⟩, -, X10, ⟨Lc10, hQ10, l10, y10, z10⟩, st10⟩ := Jvm.LawKit.callS X8 hx (y := (⟨"java/util/Objects", "requireNonNull", "(Ljava/lang/Object;Ljava/lang/String;)Ljava/lang/Object;"⟩ : MethodName)) hown (mvT hZ (hw _ (List.mem_of_getElem? (i := 46) rfl))) (mvT hZ (hw _ (List.mem_of_getElem? (i := 47) rfl))) (mvT hZ (hw _ (List.mem_of_getElem? (i := 48) rfl))) (mvT hZ (hw _ (List.mem_of_getElem? (i := 49) rfl))) (by decide) (backOf (W := 0) (rm9 l Z a0 hw [] a3 a8 h8 n0 Z8 ) hZ (hw _ (List.mem_of_getElem? (i := 49) rfl)) (hw _ (List.mem_of_getElem? (i := 48) rfl)) (by decide) (by decide)) (g := (mkF m 7 #[.val (.ref a1), .val (.ref a2), .val (.ref a3), .val (.ref a4), .val (.ref a5), .val (.ref a6)] [(.ref a8), (.ref a3)])) rfl (by rw [hml]; rfl) (argsL := [(.ref a3), (.ref a8)]) (rest := []) (lenOf pd_5 rfl) rfl (by show 2 * 0 + _ ≤ _; exact Nat.le_of_eq rfl) (hb hby d8_7) (fun _ _ => ⟨rfl, e8, (by decide : 2 + 0 ≤ _), (by decide : 28 + 0 ≤ _)⟩)
  dsimp only [Pt.U, Pt.locs, Pt.cells, Pt.slots] at X10 l10 y10 z10 st10 hQ10
  subst l10 y10 z10
  obtain ⟨rfl, N10q, e10q⟩ := hQ10
  have N10 := Fr.app N0 N10q
  obtain ⟨Lg10, Xg10, Ng10⟩ := Stand_gen X10 N10
  refine RunW.go st10 ?_
  show RunW p e below s Z own_EL 10 124 (Q_rm8 Z a1 a2 a3 a4 a5 a6 cs3 cs6 u_scheme_a1 u_number_a1 u_caption_a1 u_tag_a1 u_term_a1 h0 n0) (T10.setTop (mkF m 10 #[.val (.ref a1), .val (.ref a2), .val (.ref a3), .val (.ref a4), .val (.ref a5), .val (.ref a6)] [(.ref a3)]))
  have fx11 := (E_a3.ext E8)
  obtain ⟨T12, X12, e12, st12⟩ := castY Xg10 hx hZ hown (hw _ (List.mem_of_getElem? (i := 50) rfl)) e10q (Ins.self fx11) (g := (mkF m 10 #[.val (.ref a1), .val (.ref a2), .val (.ref a3), .val (.ref a4), .val (.ref a5), .val (.ref a6)] [(.ref a3)])) rfl rfl (hb hby d8_10)
  refine RunW.go st12 ?_
  show RunW p e below s Z own_EL 10 124 (Q_rm8 Z a1 a2 a3 a4 a5 a6 cs3 cs6 u_scheme_a1 u_number_a1 u_caption_a1 u_tag_a1 u_term_a1 h0 n0) (T12.setTop (mkF m 13 #[.val (.ref a1), .val (.ref a2), .val (.ref a3), .val (.ref a4), .val (.ref a5), .val (.ref a6)] [(.ref a3)]))
  have fx14 := (hX3.ext E8)
  obtain ⟨o15t, o15k, o15E, o15V, o15C, o15K, o15b, o15l⟩ := id fx14
  obtain ⟨cq13, kq13, q13a, q13b, q13c⟩ := isOf hZ e12 fx11
  obtain ⟨_, _, ⟨T13, L13, k13, n13⟩, -, X13, ⟨Lc13, hQ13, l13, y13, z13⟩, st13⟩ := X12.virtualBack hx (y := (⟨"java/lang/String", "isEmpty", "()Z"⟩ : MethodName)) (z := (⟨"java/lang/String", "isEmpty", "()Z"⟩ : MethodName)) hown (mvT hZ (hw _ (List.mem_of_getElem? (i := 51) rfl))) (mvT hZ (hw _ (List.mem_of_getElem? (i := 52) rfl))) (notFace_of_selects (args := #[]) (mvT hZ (hw _ (List.mem_of_getElem? (i := 54) rfl)))) (mvT hZ (hw _ (List.mem_of_getElem? (i := 54) rfl))) (mvT hZ (hw _ (List.mem_of_getElem? (i := 53) rfl))) (by decide) (StrChars.Road.empW (W := 0) hZ (fun d hd => hw d (own_wE d hd)) (kI := 4) (hw _ (List.mem_of_getElem? (i := 14) rfl)) o15E o15V o15C o15K (own_cod o15b) (own_up o15b) (Nat.le_trans o15l (by decide)) (by decide) (by decide)) q13a q13c (g := (mkF m 13 #[.val (.ref a1), .val (.ref a2), .val (.ref a3), .val (.ref a4), .val (.ref a5), .val (.ref a6)] [(.ref a3)])) rfl (by rw [hml]; rfl) (Steps.refl _) (argsL := []) (rest := []) (lenOf pd_6 rfl) rfl (by show 2 * 0 + _ ≤ _; exact Nat.le_of_eq rfl) (hb hby d8_13) (fun _ _ => ⟨rfl, e12, (by decide : 2 + 0 ≤ _), (by decide : 28 + 0 ≤ _)⟩)
  dsimp only [Pt.U, Pt.locs, Pt.cells, Pt.slots] at X13 l13 y13 z13 st13 hQ13
  subst l13 y13 z13
  obtain ⟨rfl, rfl, e13q⟩ := hQ13
  have N13q := Fr.nil n0
  have N13 := Fr.app Ng10 N13q
  obtain ⟨Lg13, Xg13, Ng13⟩ := Stand_gen X13 N13
  refine RunW.tr st13 ?_
  show RunW p e below s Z own_EL 10 124 (Q_rm8 Z a1 a2 a3 a4 a5 a6 cs3 cs6 u_scheme_a1 u_number_a1 u_caption_a1 u_tag_a1 u_term_a1 h0 n0) (T13.setTop (mkF m 16 #[.val (.ref a1), .val (.ref a2), .val (.ref a3), .val (.ref a4), .val (.ref a5), .val (.ref a6)] [(.int (if (cs3).length = 0 then (1 : Int32) else 0))]))
  refine RunW.go (fun _ k => XS.ifNo Xg13.here hx rfl (hb hby d8_16) rfl ((if0 _ _).trans (teq (if_neg hn3)).2) k) ?_
  show RunW p e below s Z own_EL 10 124 (Q_rm8 Z a1 a2 a3 a4 a5 a6 cs3 cs6 u_scheme_a1 u_number_a1 u_caption_a1 u_tag_a1 u_term_a1 h0 n0) (T13.setTop (mkF m 19 #[.val (.ref a1), .val (.ref a2), .val (.ref a3), .val (.ref a4), .val (.ref a5), .val (.ref a6)] []))
  refine RunW.go (fun _ k => XS.aload Xg13.here hx rfl (hb hby d8_19) rfl rfl k) ?_
  show RunW p e below s Z own_EL 10 124 (Q_rm8 Z a1 a2 a3 a4 a5 a6 cs3 cs6 u_scheme_a1 u_number_a1 u_caption_a1 u_tag_a1 u_term_a1 h0 n0) (T13.setTop (mkF m 21 #[.val (.ref a1), .val (.ref a2), .val (.ref a3), .val (.ref a4), .val (.ref a5), .val (.ref a6)] [(.ref a6)]))
  obtain ⟨a16, T16, h16, k16, X16, e16, E16, hS, hk, hZ, hown, C16q, -, st16⟩ := ldcOH Xg13 hx hZ hown (hw _ (List.mem_of_getElem? (i := 56) rfl)) (own_wS hw) e13q hS hk (own_ew hw) C9.1 (g := (mkF m 21 #[.val (.ref a1), .val (.ref a2), .val (.ref a3), .val (.ref a4), .val (.ref a5), .val (.ref a6)] [(.ref a6)])) rfl (hb hby d8_21) (n := 16) (by decide) (by decide) (by decide : 2 + 2 ≤ _) (by decide : 28 + 20 ≤ _)
  have C17 := C9.trans C16q
  have Z16 : n0 ≤ h16.size := Nat.le_trans Z8 E16.1
  have K16 : Keep h0 h16 [a1] := K8.ext E16
  refine RunW.go st16 ?_
  show RunW p e below s Z own_EL 10 124 (Q_rm8 Z a1 a2 a3 a4 a5 a6 cs3 cs6 u_scheme_a1 u_number_a1 u_caption_a1 u_tag_a1 u_term_a1 h0 n0) (T16.setTop (mkF m 23 #[.val (.ref a1), .val (.ref a2), .val (.ref a3), .val (.ref a4), .val (.ref a5), .val (.ref a6)] [(.ref a16), (.ref a6)]))
  obtain ⟨_, _, ⟨T18, L18, k18, n18⟩, -, X18, ⟨Lc18, hQ18, l18, y18, z18⟩, st18⟩ := Jvm.LawKit.callS X16 hx (y := (⟨"java/util/Objects", "requireNonNull", "(Ljava/lang/Object;Ljava/lang/String;)Ljava/lang/Object;"⟩ : MethodName)) hown (mvT hZ (hw _ (List.mem_of_getElem? (i := 46) rfl))) (mvT hZ (hw _ (List.mem_of_getElem? (i := 47) rfl))) (mvT hZ (hw _ (List.mem_of_getElem? (i := 48) rfl))) (mvT hZ (hw _ (List.mem_of_getElem? (i := 49) rfl))) (by decide) (backOf (W := 0) (rm9 l Z a0 hw [] a6 a16 h16 n0 Z16 ) hZ (hw _ (List.mem_of_getElem? (i := 49) rfl)) (hw _ (List.mem_of_getElem? (i := 48) rfl)) (by decide) (by decide)) (g := (mkF m 23 #[.val (.ref a1), .val (.ref a2), .val (.ref a3), .val (.ref a4), .val (.ref a5), .val (.ref a6)] [(.ref a16), (.ref a6)])) rfl (by rw [hml]; rfl) (argsL := [(.ref a6), (.ref a16)]) (rest := []) (lenOf pd_5 rfl) rfl (by show 2 * 0 + _ ≤ _; exact Nat.le_of_eq rfl) (hb hby d8_23) (fun _ _ => ⟨rfl, e16, (by decide : 4 + 0 ≤ _), (by decide : 48 + 0 ≤ _)⟩)
  dsimp only [Pt.U, Pt.locs, Pt.cells, Pt.slots] at X18 l18 y18 z18 st18 hQ18
  subst l18 y18 z18
  obtain ⟨rfl, N18q, e18q⟩ := hQ18
  have N18 := Fr.app Ng13 N18q
  obtain ⟨Lg18, Xg18, Ng18⟩ := Stand_gen X18 N18
  refine RunW.go st18 ?_
  show RunW p e below s Z own_EL 10 124 (Q_rm8 Z a1 a2 a3 a4 a5 a6 cs3 cs6 u_scheme_a1 u_number_a1 u_caption_a1 u_tag_a1 u_term_a1 h0 n0) (T18.setTop (mkF m 26 #[.val (.ref a1), .val (.ref a2), .val (.ref a3), .val (.ref a4), .val (.ref a5), .val (.ref a6)] [(.ref a6)]))
  have fx19 := ((E_a6.ext E8).ext E16)
  obtain ⟨T20, X20, e20, st20⟩ := castY Xg18 hx hZ hown (hw _ (List.mem_of_getElem? (i := 50) rfl)) e18q (Ins.self fx19) (g := (mkF m 26 #[.val (.ref a1), .val (.ref a2), .val (.ref a3), .val (.ref a4), .val (.ref a5), .val (.ref a6)] [(.ref a6)])) rfl rfl (hb hby d8_26)
  refine RunW.go st20 ?_
  show RunW p e below s Z own_EL 10 124 (Q_rm8 Z a1 a2 a3 a4 a5 a6 cs3 cs6 u_scheme_a1 u_number_a1 u_caption_a1 u_tag_a1 u_term_a1 h0 n0) (T20.setTop (mkF m 29 #[.val (.ref a1), .val (.ref a2), .val (.ref a3), .val (.ref a4), .val (.ref a5), .val (.ref a6)] [(.ref a6)]))
  have fx22 := ((hX6.ext E8).ext E16)
  obtain ⟨o23t, o23k, o23E, o23V, o23C, o23K, o23b, o23l⟩ := id fx22
  obtain ⟨cq21, kq21, q21a, q21b, q21c⟩ := isOf hZ e20 fx19
  obtain ⟨_, _, ⟨T21, L21, k21, n21⟩, -, X21, ⟨Lc21, hQ21, l21, y21, z21⟩, st21⟩ := X20.virtualBack hx (y := (⟨"java/lang/String", "isEmpty", "()Z"⟩ : MethodName)) (z := (⟨"java/lang/String", "isEmpty", "()Z"⟩ : MethodName)) hown (mvT hZ (hw _ (List.mem_of_getElem? (i := 51) rfl))) (mvT hZ (hw _ (List.mem_of_getElem? (i := 52) rfl))) (notFace_of_selects (args := #[]) (mvT hZ (hw _ (List.mem_of_getElem? (i := 54) rfl)))) (mvT hZ (hw _ (List.mem_of_getElem? (i := 54) rfl))) (mvT hZ (hw _ (List.mem_of_getElem? (i := 53) rfl))) (by decide) (StrChars.Road.empW (W := 0) hZ (fun d hd => hw d (own_wE d hd)) (kI := 4) (hw _ (List.mem_of_getElem? (i := 14) rfl)) o23E o23V o23C o23K (own_cod o23b) (own_up o23b) (Nat.le_trans o23l (by decide)) (by decide) (by decide)) q21a q21c (g := (mkF m 29 #[.val (.ref a1), .val (.ref a2), .val (.ref a3), .val (.ref a4), .val (.ref a5), .val (.ref a6)] [(.ref a6)])) rfl (by rw [hml]; rfl) (Steps.refl _) (argsL := []) (rest := []) (lenOf pd_6 rfl) rfl (by show 2 * 0 + _ ≤ _; exact Nat.le_of_eq rfl) (hb hby d8_29) (fun _ _ => ⟨rfl, e20, (by decide : 4 + 0 ≤ _), (by decide : 48 + 0 ≤ _)⟩)
  dsimp only [Pt.U, Pt.locs, Pt.cells, Pt.slots] at X21 l21 y21 z21 st21 hQ21
  subst l21 y21 z21
  obtain ⟨rfl, rfl, e21q⟩ := hQ21
  have N21q := Fr.nil n0
  have N21 := Fr.app Ng18 N21q
  obtain ⟨Lg21, Xg21, Ng21⟩ := Stand_gen X21 N21
  refine RunW.tr st21 ?_
  show RunW p e below s Z own_EL 10 124 (Q_rm8 Z a1 a2 a3 a4 a5 a6 cs3 cs6 u_scheme_a1 u_number_a1 u_caption_a1 u_tag_a1 u_term_a1 h0 n0) (T21.setTop (mkF m 32 #[.val (.ref a1), .val (.ref a2), .val (.ref a3), .val (.ref a4), .val (.ref a5), .val (.ref a6)] [(.int (if (cs6).length = 0 then (1 : Int32) else 0))]))
  refine RunW.go (fun _ k => XS.ifYes Xg21.here hx rfl (pc0 := 32) (pc' := 45) rfl (hb hby d8_32) rfl ((if0 _ _).trans (teq (if_neg hn6)).1) (by decide) (by decide) k) ?_
  show RunW p e below s Z own_EL 10 124 (Q_rm8 Z a1 a2 a3 a4 a5 a6 cs3 cs6 u_scheme_a1 u_number_a1 u_caption_a1 u_tag_a1 u_term_a1 h0 n0) (T21.setTop (mkF m 45 #[.val (.ref a1), .val (.ref a2), .val (.ref a3), .val (.ref a4), .val (.ref a5), .val (.ref a6)] []))
  refine RunW.go (fun _ k => XS.aloadN Xg21.here hx rfl (hb hby d8_45) rfl rfl k) ?_
  show RunW p e below s Z own_EL 10 124 (Q_rm8 Z a1 a2 a3 a4 a5 a6 cs3 cs6 u_scheme_a1 u_number_a1 u_caption_a1 u_tag_a1 u_term_a1 h0 n0) (T21.setTop (mkF m 46 #[.val (.ref a1), .val (.ref a2), .val (.ref a3), .val (.ref a4), .val (.ref a5), .val (.ref a6)] [(.ref a1)]))
  refine RunW.go (fun _ k => XS.aloadN Xg21.here hx rfl (hb hby d8_46) rfl rfl k) ?_
  show RunW p e below s Z own_EL 10 124 (Q_rm8 Z a1 a2 a3 a4 a5 a6 cs3 cs6 u_scheme_a1 u_number_a1 u_caption_a1 u_tag_a1 u_term_a1 h0 n0) (T21.setTop (mkF m 47 #[.val (.ref a1), .val (.ref a2), .val (.ref a3), .val (.ref a4), .val (.ref a5), .val (.ref a6)] [(.ref a2), (.ref a1)]))
  obtain ⟨a24, T24, h24, k24, X24, e24, E24, hS, hk, hZ, hown, C24q, -, st24⟩ := ldcOH Xg21 hx hZ hown (hw _ (List.mem_of_getElem? (i := 57) rfl)) (own_wS hw) e21q hS hk (own_ew hw) C17.1 (g := (mkF m 47 #[.val (.ref a1), .val (.ref a2), .val (.ref a3), .val (.ref a4), .val (.ref a5), .val (.ref a6)] [(.ref a2), (.ref a1)])) rfl (hb hby d8_47) (n := 24) (by decide) (by decide) (by decide : 4 + 2 ≤ _) (by decide : 48 + 28 ≤ _)
  have C25 := C17.trans C24q
  have Z24 : n0 ≤ h24.size := Nat.le_trans Z16 E24.1
  have K24 : Keep h0 h24 [a1] := K16.ext E24
  refine RunW.go st24 ?_
  show RunW p e below s Z own_EL 10 124 (Q_rm8 Z a1 a2 a3 a4 a5 a6 cs3 cs6 u_scheme_a1 u_number_a1 u_caption_a1 u_tag_a1 u_term_a1 h0 n0) (T24.setTop (mkF m 49 #[.val (.ref a1), .val (.ref a2), .val (.ref a3), .val (.ref a4), .val (.ref a5), .val (.ref a6)] [(.ref a24), (.ref a2), (.ref a1)]))
  obtain ⟨_, _, ⟨T26, L26, k26, n26⟩, -, X26, ⟨Lc26, hQ26, l26, y26, z26⟩, st26⟩ := Jvm.LawKit.callS X24 hx (y := (⟨"java/util/Objects", "requireNonNull", "(Ljava/lang/Object;Ljava/lang/String;)Ljava/lang/Object;"⟩ : MethodName)) hown (mvT hZ (hw _ (List.mem_of_getElem? (i := 46) rfl))) (mvT hZ (hw _ (List.mem_of_getElem? (i := 47) rfl))) (mvT hZ (hw _ (List.mem_of_getElem? (i := 48) rfl))) (mvT hZ (hw _ (List.mem_of_getElem? (i := 49) rfl))) (by decide) (backOf (W := 1) (rm9 l Z a0 hw [] a2 a24 h24 n0 Z24 ) hZ (hw _ (List.mem_of_getElem? (i := 49) rfl)) (hw _ (List.mem_of_getElem? (i := 48) rfl)) (by decide) (by decide)) (g := (mkF m 49 #[.val (.ref a1), .val (.ref a2), .val (.ref a3), .val (.ref a4), .val (.ref a5), .val (.ref a6)] [(.ref a24), (.ref a2), (.ref a1)])) rfl (by rw [hml]; rfl) (argsL := [(.ref a2), (.ref a24)]) (rest := [(.ref a1)]) (lenOf pd_5 rfl) rfl (by show 2 * 0 + _ ≤ _; exact Nat.le_of_eq rfl) (hb hby d8_49) (fun _ _ => ⟨rfl, e24, (by decide : 6 + 0 ≤ _), (by decide : 76 + 0 ≤ _)⟩)
  dsimp only [Pt.U, Pt.locs, Pt.cells, Pt.slots] at X26 l26 y26 z26 st26 hQ26
  subst l26 y26 z26
  obtain ⟨rfl, N26q, e26q⟩ := hQ26
  have N26 := Fr.app Ng21 N26q
  obtain ⟨Lg26, Xg26, Ng26⟩ := Stand_gen X26 N26
  refine RunW.go st26 ?_
  show RunW p e below s Z own_EL 10 124 (Q_rm8 Z a1 a2 a3 a4 a5 a6 cs3 cs6 u_scheme_a1 u_number_a1 u_caption_a1 u_tag_a1 u_term_a1 h0 n0) (T26.setTop (mkF m 52 #[.val (.ref a1), .val (.ref a2), .val (.ref a3), .val (.ref a4), .val (.ref a5), .val (.ref a6)] [(.ref a2), (.ref a1)]))
  have fx27 := (((E_a2.ext E8).ext E16).ext E24)
  obtain ⟨T28, X28, e28, st28⟩ := castY Xg26 hx hZ hown (hw _ (List.mem_of_getElem? (i := 50) rfl)) e26q (Ins.self fx27) (g := (mkF m 52 #[.val (.ref a1), .val (.ref a2), .val (.ref a3), .val (.ref a4), .val (.ref a5), .val (.ref a6)] [(.ref a2), (.ref a1)])) rfl rfl (hb hby d8_52)
  refine RunW.go st28 ?_
  show RunW p e below s Z own_EL 10 124 (Q_rm8 Z a1 a2 a3 a4 a5 a6 cs3 cs6 u_scheme_a1 u_number_a1 u_caption_a1 u_tag_a1 u_term_a1 h0 n0) (T28.setTop (mkF m 55 #[.val (.ref a1), .val (.ref a2), .val (.ref a3), .val (.ref a4), .val (.ref a5), .val (.ref a6)] [(.ref a2), (.ref a1)]))
  have fx29 := (((E_a1.ext E8).ext E16).ext E24)
  have fx30 := (((F_scheme_a1.ext E8).ext E16).ext E24)
  obtain ⟨T31, h31, X31, e31, W31, st31⟩ := putF X28 hx hZ hown (host := "") (Or.inl (hw _ (List.mem_of_getElem? (i := 58) rfl))) Via.refl e28 fx30 fx29 (Or.inr ⟨(hw _ (List.mem_of_getElem? (i := 59) rfl)), rfl, hnm⟩) (hw _ (List.mem_of_getElem? (i := 7) rfl)) (ty := (.object "java/lang/String")) (by decide) rfl rfl (g := (mkF m 55 #[.val (.ref a1), .val (.ref a2), .val (.ref a3), .val (.ref a4), .val (.ref a5), .val (.ref a6)] [(.ref a2), (.ref a1)])) rfl rfl (hb hby d8_55)
  have C33 := C25.trans (CHr.wr W31 (Safe.exa hZ.alike fx29 (by decide) (by decide)) C25.1)
  have hk := Nat.le_trans hk (Keep.of_wr W31).1
  have N31 := Fr.snoc X31 Ng26 g_a1
  have Z31 : n0 ≤ h31.size := Nat.le_trans Z24 (Keep.of_wr W31).1
  have K31 : Keep h0 h31 [a1] := K24.wr W31 (Or.inl (List.mem_of_getElem? (i := 0) rfl))
  obtain ⟨Lg31, Xg31, Ng31⟩ := Stand_gen X31 N31
  have fx32 := fx30.same W31
  refine RunW.go st31 ?_
  show RunW p e below s Z own_EL 10 124 (Q_rm8 Z a1 a2 a3 a4 a5 a6 cs3 cs6 u_scheme_a1 u_number_a1 u_caption_a1 u_tag_a1 u_term_a1 h0 n0) (T31.setTop (mkF m 58 #[.val (.ref a1), .val (.ref a2), .val (.ref a3), .val (.ref a4), .val (.ref a5), .val (.ref a6)] []))
  refine RunW.go (fun _ k => XS.aloadN Xg31.here hx rfl (hb hby d8_58) rfl rfl k) ?_
  show RunW p e below s Z own_EL 10 124 (Q_rm8 Z a1 a2 a3 a4 a5 a6 cs3 cs6 u_scheme_a1 u_number_a1 u_caption_a1 u_tag_a1 u_term_a1 h0 n0) (T31.setTop (mkF m 59 #[.val (.ref a1), .val (.ref a2), .val (.ref a3), .val (.ref a4), .val (.ref a5), .val (.ref a6)] [(.ref a1)]))
  refine RunW.go (fun _ k => XS.aloadN Xg31.here hx rfl (hb hby d8_59) rfl rfl k) ?_
  show RunW p e below s Z own_EL 10 124 (Q_rm8 Z a1 a2 a3 a4 a5 a6 cs3 cs6 u_scheme_a1 u_number_a1 u_caption_a1 u_tag_a1 u_term_a1 h0 n0) (T31.setTop (mkF m 60 #[.val (.ref a1), .val (.ref a2), .val (.ref a3), .val (.ref a4), .val (.ref a5), .val (.ref a6)] [(.ref a3), (.ref a1)]))
  have fx34 := (fx29.wr W31)
  have fx35 := ((((F_number_a1.ext E8).ext E16).ext E24).other W31 (Or.inr (slot_ne (Or.inr (hw _ (List.mem_of_getElem? (i := 61) rfl))) (Or.inr (hw _ (List.mem_of_getElem? (i := 59) rfl))) (by decide) (t := (.object "java/lang/String")) (t' := (.object "java/lang/String")) (by decide) (by decide))))
  obtain ⟨T36, h36, X36, e36, W36, st36⟩ := putF Xg31 hx hZ hown (host := "") (Or.inl (hw _ (List.mem_of_getElem? (i := 60) rfl))) Via.refl e31 fx35 fx34 (Or.inr ⟨(hw _ (List.mem_of_getElem? (i := 61) rfl)), rfl, hnm⟩) (hw _ (List.mem_of_getElem? (i := 7) rfl)) (ty := (.object "java/lang/String")) (by decide) rfl rfl (g := (mkF m 60 #[.val (.ref a1), .val (.ref a2), .val (.ref a3), .val (.ref a4), .val (.ref a5), .val (.ref a6)] [(.ref a3), (.ref a1)])) rfl rfl (hb hby d8_60)
  have C38 := C33.trans (CHr.wr W36 (Safe.exa hZ.alike fx34 (by decide) (by decide)) C33.1)
  have hk := Nat.le_trans hk (Keep.of_wr W36).1
  have N36 := Fr.snoc X36 Ng31 g_a1
  have Z36 : n0 ≤ h36.size := Nat.le_trans Z31 (Keep.of_wr W36).1
  have K36 : Keep h0 h36 [a1] := K31.wr W36 (Or.inl (List.mem_of_getElem? (i := 0) rfl))
  obtain ⟨Lg36, Xg36, Ng36⟩ := Stand_gen X36 N36
  have fx37 := fx35.same W36
  refine RunW.go st36 ?_
  show RunW p e below s Z own_EL 10 124 (Q_rm8 Z a1 a2 a3 a4 a5 a6 cs3 cs6 u_scheme_a1 u_number_a1 u_caption_a1 u_tag_a1 u_term_a1 h0 n0) (T36.setTop (mkF m 63 #[.val (.ref a1), .val (.ref a2), .val (.ref a3), .val (.ref a4), .val (.ref a5), .val (.ref a6)] []))
  refine RunW.go (fun _ k => XS.aloadN Xg36.here hx rfl (hb hby d8_63) rfl rfl k) ?_
  show RunW p e below s Z own_EL 10 124 (Q_rm8 Z a1 a2 a3 a4 a5 a6 cs3 cs6 u_scheme_a1 u_number_a1 u_caption_a1 u_tag_a1 u_term_a1 h0 n0) (T36.setTop (mkF m 64 #[.val (.ref a1), .val (.ref a2), .val (.ref a3), .val (.ref a4), .val (.ref a5), .val (.ref a6)] [(.ref a1)]))
  refine RunW.go (fun _ k => XS.aloadN Xg36.here hx rfl (hb hby d8_64) rfl rfl k) ?_
  show RunW p e below s Z own_EL 10 124 (Q_rm8 Z a1 a2 a3 a4 a5 a6 cs3 cs6 u_scheme_a1 u_number_a1 u_caption_a1 u_tag_a1 u_term_a1 h0 n0) (T36.setTop (mkF m 65 #[.val (.ref a1), .val (.ref a2), .val (.ref a3), .val (.ref a4), .val (.ref a5), .val (.ref a6)] [(.ref a4), (.ref a1)]))
  obtain ⟨a39, T39, h39, k39, X39, e39, E39, hS, hk, hZ, hown, C39q, -, st39⟩ := ldcOH Xg36 hx hZ hown (hw _ (List.mem_of_getElem? (i := 62) rfl)) (own_wS hw) e36 hS hk (own_ew hw) C38.1 (g := (mkF m 65 #[.val (.ref a1), .val (.ref a2), .val (.ref a3), .val (.ref a4), .val (.ref a5), .val (.ref a6)] [(.ref a4), (.ref a1)])) rfl (hb hby d8_65) (n := 28) (by decide) (by decide) (by decide : 6 + 2 ≤ _) (by decide : 76 + 32 ≤ _)
  have C40 := C38.trans C39q
  have Z39 : n0 ≤ h39.size := Nat.le_trans Z36 E39.1
  have K39 : Keep h0 h39 [a1] := K36.ext E39
  refine RunW.go st39 ?_
  show RunW p e below s Z own_EL 10 124 (Q_rm8 Z a1 a2 a3 a4 a5 a6 cs3 cs6 u_scheme_a1 u_number_a1 u_caption_a1 u_tag_a1 u_term_a1 h0 n0) (T39.setTop (mkF m 67 #[.val (.ref a1), .val (.ref a2), .val (.ref a3), .val (.ref a4), .val (.ref a5), .val (.ref a6)] [(.ref a39), (.ref a4), (.ref a1)]))
  obtain ⟨_, _, ⟨T41, L41, k41, n41⟩, -, X41, ⟨Lc41, hQ41, l41, y41, z41⟩, st41⟩ := Jvm.LawKit.callS X39 hx (y := (⟨"java/util/Objects", "requireNonNull", "(Ljava/lang/Object;Ljava/lang/String;)Ljava/lang/Object;"⟩ : MethodName)) hown (mvT hZ (hw _ (List.mem_of_getElem? (i := 46) rfl))) (mvT hZ (hw _ (List.mem_of_getElem? (i := 47) rfl))) (mvT hZ (hw _ (List.mem_of_getElem? (i := 48) rfl))) (mvT hZ (hw _ (List.mem_of_getElem? (i := 49) rfl))) (by decide) (backOf (W := 1) (rm9 l Z a0 hw [] a4 a39 h39 n0 Z39 ) hZ (hw _ (List.mem_of_getElem? (i := 49) rfl)) (hw _ (List.mem_of_getElem? (i := 48) rfl)) (by decide) (by decide)) (g := (mkF m 67 #[.val (.ref a1), .val (.ref a2), .val (.ref a3), .val (.ref a4), .val (.ref a5), .val (.ref a6)] [(.ref a39), (.ref a4), (.ref a1)])) rfl (by rw [hml]; rfl) (argsL := [(.ref a4), (.ref a39)]) (rest := [(.ref a1)]) (lenOf pd_5 rfl) rfl (by show 2 * 0 + _ ≤ _; exact Nat.le_of_eq rfl) (hb hby d8_67) (fun _ _ => ⟨rfl, e39, (by decide : 8 + 0 ≤ _), (by decide : 108 + 0 ≤ _)⟩)
  dsimp only [Pt.U, Pt.locs, Pt.cells, Pt.slots] at X41 l41 y41 z41 st41 hQ41
  subst l41 y41 z41
  obtain ⟨rfl, N41q, e41q⟩ := hQ41
  have N41 := Fr.app Ng36 N41q
  obtain ⟨Lg41, Xg41, Ng41⟩ := Stand_gen X41 N41
  refine RunW.go st41 ?_
  show RunW p e below s Z own_EL 10 124 (Q_rm8 Z a1 a2 a3 a4 a5 a6 cs3 cs6 u_scheme_a1 u_number_a1 u_caption_a1 u_tag_a1 u_term_a1 h0 n0) (T41.setTop (mkF m 70 #[.val (.ref a1), .val (.ref a2), .val (.ref a3), .val (.ref a4), .val (.ref a5), .val (.ref a6)] [(.ref a4), (.ref a1)]))
  have fx42 := ((((((E_a4.ext E8).ext E16).ext E24).wr W31).wr W36).ext E39)
  obtain ⟨T43, X43, e43, st43⟩ := castY Xg41 hx hZ hown (hw _ (List.mem_of_getElem? (i := 50) rfl)) e41q (Ins.self fx42) (g := (mkF m 70 #[.val (.ref a1), .val (.ref a2), .val (.ref a3), .val (.ref a4), .val (.ref a5), .val (.ref a6)] [(.ref a4), (.ref a1)])) rfl rfl (hb hby d8_70)
  refine RunW.go st43 ?_
  show RunW p e below s Z own_EL 10 124 (Q_rm8 Z a1 a2 a3 a4 a5 a6 cs3 cs6 u_scheme_a1 u_number_a1 u_caption_a1 u_tag_a1 u_term_a1 h0 n0) (T43.setTop (mkF m 73 #[.val (.ref a1), .val (.ref a2), .val (.ref a3), .val (.ref a4), .val (.ref a5), .val (.ref a6)] [(.ref a4), (.ref a1)]))
  have fx44 := ((fx34.wr W36).ext E39)
  have fx45 := ((((((F_caption_a1.ext E8).ext E16).ext E24).other W31 (Or.inr (slot_ne (Or.inr (hw _ (List.mem_of_getElem? (i := 64) rfl))) (Or.inr (hw _ (List.mem_of_getElem? (i := 59) rfl))) (by decide) (t := (.object "java/lang/String")) (t' := (.object "java/lang/String")) (by decide) (by decide)))).other W36 (Or.inr (slot_ne (Or.inr (hw _ (List.mem_of_getElem? (i := 64) rfl))) (Or.inr (hw _ (List.mem_of_getElem? (i := 61) rfl))) (by decide) (t := (.object "java/lang/String")) (t' := (.object "java/lang/String")) (by decide) (by decide)))).ext E39)
  obtain ⟨T46, h46, X46, e46, W46, st46⟩ := putF X43 hx hZ hown (host := "") (Or.inl (hw _ (List.mem_of_getElem? (i := 63) rfl))) Via.refl e43 fx45 fx44 (Or.inr ⟨(hw _ (List.mem_of_getElem? (i := 64) rfl)), rfl, hnm⟩) (hw _ (List.mem_of_getElem? (i := 7) rfl)) (ty := (.object "java/lang/String")) (by decide) rfl rfl (g := (mkF m 73 #[.val (.ref a1), .val (.ref a2), .val (.ref a3), .val (.ref a4), .val (.ref a5), .val (.ref a6)] [(.ref a4), (.ref a1)])) rfl rfl (hb hby d8_73)
  have C48 := C40.trans (CHr.wr W46 (Safe.exa hZ.alike fx44 (by decide) (by decide)) C40.1)
  have hk := Nat.le_trans hk (Keep.of_wr W46).1
  have N46 := Fr.snoc X46 Ng41 g_a1
  have Z46 : n0 ≤ h46.size := Nat.le_trans Z39 (Keep.of_wr W46).1
  have K46 : Keep h0 h46 [a1] := K39.wr W46 (Or.inl (List.mem_of_getElem? (i := 0) rfl))
  obtain ⟨Lg46, Xg46, Ng46⟩ := Stand_gen X46 N46
  have fx47 := fx45.same W46
  refine RunW.go st46 ?_
  show RunW p e below s Z own_EL 10 124 (Q_rm8 Z a1 a2 a3 a4 a5 a6 cs3 cs6 u_scheme_a1 u_number_a1 u_caption_a1 u_tag_a1 u_term_a1 h0 n0) (T46.setTop (mkF m 76 #[.val (.ref a1), .val (.ref a2), .val (.ref a3), .val (.ref a4), .val (.ref a5), .val (.ref a6)] []))
  refine RunW.go (fun _ k => XS.aloadN Xg46.here hx rfl (hb hby d8_76) rfl rfl k) ?_
  show RunW p e below s Z own_EL 10 124 (Q_rm8 Z a1 a2 a3 a4 a5 a6 cs3 cs6 u_scheme_a1 u_number_a1 u_caption_a1 u_tag_a1 u_term_a1 h0 n0) (T46.setTop (mkF m 77 #[.val (.ref a1), .val (.ref a2), .val (.ref a3), .val (.ref a4), .val (.ref a5), .val (.ref a6)] [(.ref a1)]))
  refine RunW.go (fun _ k => XS.aload Xg46.here hx rfl (hb hby d8_77) rfl rfl k) ?_
  show RunW p e below s Z own_EL 10 124 (Q_rm8 Z a1 a2 a3 a4 a5 a6 cs3 cs6 u_scheme_a1 u_number_a1 u_caption_a1 u_tag_a1 u_term_a1 h0 n0) (T46.setTop (mkF m 79 #[.val (.ref a1), .val (.ref a2), .val (.ref a3), .val (.ref a4), .val (.ref a5), .val (.ref a6)] [(.ref a5), (.ref a1)]))
  obtain ⟨a49, T49, h49, k49, X49, e49, E49, hS, hk, hZ, hown, C49q, -, st49⟩ := ldcOH Xg46 hx hZ hown (hw _ (List.mem_of_getElem? (i := 65) rfl)) (own_wS hw) e46 hS hk (own_ew hw) C48.1 (g := (mkF m 79 #[.val (.ref a1), .val (.ref a2), .val (.ref a3), .val (.ref a4), .val (.ref a5), .val (.ref a6)] [(.ref a5), (.ref a1)])) rfl (hb hby d8_79) (n := 12) (by decide) (by decide) (by decide : 8 + 2 ≤ _) (by decide : 108 + 16 ≤ _)
  have C50 := C48.trans C49q
  have Z49 : n0 ≤ h49.size := Nat.le_trans Z46 E49.1
  have K49 : Keep h0 h49 [a1] := K46.ext E49
  refine RunW.go st49 ?_
  show RunW p e below s Z own_EL 10 124 (Q_rm8 Z a1 a2 a3 a4 a5 a6 cs3 cs6 u_scheme_a1 u_number_a1 u_caption_a1 u_tag_a1 u_term_a1 h0 n0) (T49.setTop (mkF m 81 #[.val (.ref a1), .val (.ref a2), .val (.ref a3), .val (.ref a4), .val (.ref a5), .val (.ref a6)] [(.ref a49), (.ref a5), (.ref a1)]))
  obtain ⟨_, _, ⟨T51, L51, k51, n51⟩, -, X51, ⟨Lc51, hQ51, l51, y51, z51⟩, st51⟩ := Jvm.LawKit.callS X49 hx (y := (⟨"java/util/Objects", "requireNonNull", "(Ljava/lang/Object;Ljava/lang/String;)Ljava/lang/Object;"⟩ : MethodName)) hown (mvT hZ (hw _ (List.mem_of_getElem? (i := 46) rfl))) (mvT hZ (hw _ (List.mem_of_getElem? (i := 47) rfl))) (mvT hZ (hw _ (List.mem_of_getElem? (i := 48) rfl))) (mvT hZ (hw _ (List.mem_of_getElem? (i := 49) rfl))) (by decide) (backOf (W := 1) (rm9 l Z a0 hw [] a5 a49 h49 n0 Z49 ) hZ (hw _ (List.mem_of_getElem? (i := 49) rfl)) (hw _ (List.mem_of_getElem? (i := 48) rfl)) (by decide) (by decide)) (g := (mkF m 81 #[.val (.ref a1), .val (.ref a2), .val (.ref a3), .val (.ref a4), .val (.ref a5), .val (.ref a6)] [(.ref a49), (.ref a5), (.ref a1)])) rfl (by rw [hml]; rfl) (argsL := [(.ref a5), (.ref a49)]) (rest := [(.ref a1)]) (lenOf pd_5 rfl) rfl (by show 2 * 0 + _ ≤ _; exact Nat.le_of_eq rfl) (hb hby d8_81) (fun _ _ => ⟨rfl, e49, (by decide : 10 + 0 ≤ _), (by decide : 124 + 0 ≤ _)⟩)
  dsimp only [Pt.U, Pt.locs, Pt.cells, Pt.slots] at X51 l51 y51 z51 st51 hQ51
  subst l51 y51 z51
  obtain ⟨rfl, N51q, e51q⟩ := hQ51
  have N51 := Fr.app Ng46 N51q
  obtain ⟨Lg51, Xg51, Ng51⟩ := Stand_gen X51 N51
  refine RunW.go st51 ?_
  show RunW p e below s Z own_EL 10 124 (Q_rm8 Z a1 a2 a3 a4 a5 a6 cs3 cs6 u_scheme_a1 u_number_a1 u_caption_a1 u_tag_a1 u_term_a1 h0 n0) (T51.setTop (mkF m 84 #[.val (.ref a1), .val (.ref a2), .val (.ref a3), .val (.ref a4), .val (.ref a5), .val (.ref a6)] [(.ref a5), (.ref a1)]))
  have fx52 := ((((((((E_a5.ext E8).ext E16).ext E24).wr W31).wr W36).ext E39).wr W46).ext E49)
  obtain ⟨T53, X53, e53, st53⟩ := castY Xg51 hx hZ hown (hw _ (List.mem_of_getElem? (i := 50) rfl)) e51q (Ins.self fx52) (g := (mkF m 84 #[.val (.ref a1), .val (.ref a2), .val (.ref a3), .val (.ref a4), .val (.ref a5), .val (.ref a6)] [(.ref a5), (.ref a1)])) rfl rfl (hb hby d8_84)
  refine RunW.go st53 ?_
  show RunW p e below s Z own_EL 10 124 (Q_rm8 Z a1 a2 a3 a4 a5 a6 cs3 cs6 u_scheme_a1 u_number_a1 u_caption_a1 u_tag_a1 u_term_a1 h0 n0) (T53.setTop (mkF m 87 #[.val (.ref a1), .val (.ref a2), .val (.ref a3), .val (.ref a4), .val (.ref a5), .val (.ref a6)] [(.ref a5), (.ref a1)]))
  have fx54 := ((fx44.wr W46).ext E49)
  have fx55 := ((((((((F_tag_a1.ext E8).ext E16).ext E24).other W31 (Or.inr (slot_ne (Or.inr (hw _ (List.mem_of_getElem? (i := 67) rfl))) (Or.inr (hw _ (List.mem_of_getElem? (i := 59) rfl))) (by decide) (t := (.object "java/lang/String")) (t' := (.object "java/lang/String")) (by decide) (by decide)))).other W36 (Or.inr (slot_ne (Or.inr (hw _ (List.mem_of_getElem? (i := 67) rfl))) (Or.inr (hw _ (List.mem_of_getElem? (i := 61) rfl))) (by decide) (t := (.object "java/lang/String")) (t' := (.object "java/lang/String")) (by decide) (by decide)))).ext E39).other W46 (Or.inr (slot_ne (Or.inr (hw _ (List.mem_of_getElem? (i := 67) rfl))) (Or.inr (hw _ (List.mem_of_getElem? (i := 64) rfl))) (by decide) (t := (.object "java/lang/String")) (t' := (.object "java/lang/String")) (by decide) (by decide)))).ext E49)
  obtain ⟨T56, h56, X56, e56, W56, st56⟩ := putF X53 hx hZ hown (host := "") (Or.inl (hw _ (List.mem_of_getElem? (i := 66) rfl))) Via.refl e53 fx55 fx54 (Or.inr ⟨(hw _ (List.mem_of_getElem? (i := 67) rfl)), rfl, hnm⟩) (hw _ (List.mem_of_getElem? (i := 7) rfl)) (ty := (.object "java/lang/String")) (by decide) rfl rfl (g := (mkF m 87 #[.val (.ref a1), .val (.ref a2), .val (.ref a3), .val (.ref a4), .val (.ref a5), .val (.ref a6)] [(.ref a5), (.ref a1)])) rfl rfl (hb hby d8_87)
  have C58 := C50.trans (CHr.wr W56 (Safe.exa hZ.alike fx54 (by decide) (by decide)) C50.1)
  have hk := Nat.le_trans hk (Keep.of_wr W56).1
  have N56 := Fr.snoc X56 Ng51 g_a1
  have Z56 : n0 ≤ h56.size := Nat.le_trans Z49 (Keep.of_wr W56).1
  have K56 : Keep h0 h56 [a1] := K49.wr W56 (Or.inl (List.mem_of_getElem? (i := 0) rfl))
  obtain ⟨Lg56, Xg56, Ng56⟩ := Stand_gen X56 N56
  have fx57 := fx55.same W56
  refine RunW.go st56 ?_
  show RunW p e below s Z own_EL 10 124 (Q_rm8 Z a1 a2 a3 a4 a5 a6 cs3 cs6 u_scheme_a1 u_number_a1 u_caption_a1 u_tag_a1 u_term_a1 h0 n0) (T56.setTop (mkF m 90 #[.val (.ref a1), .val (.ref a2), .val (.ref a3), .val (.ref a4), .val (.ref a5), .val (.ref a6)] []))
  refine RunW.go (fun _ k => XS.aloadN Xg56.here hx rfl (hb hby d8_90) rfl rfl k) ?_
  show RunW p e below s Z own_EL 10 124 (Q_rm8 Z a1 a2 a3 a4 a5 a6 cs3 cs6 u_scheme_a1 u_number_a1 u_caption_a1 u_tag_a1 u_term_a1 h0 n0) (T56.setTop (mkF m 91 #[.val (.ref a1), .val (.ref a2), .val (.ref a3), .val (.ref a4), .val (.ref a5), .val (.ref a6)] [(.ref a1)]))
  refine RunW.go (fun _ k => XS.aload Xg56.here hx rfl (hb hby d8_91) rfl rfl k) ?_
  show RunW p e below s Z own_EL 10 124 (Q_rm8 Z a1 a2 a3 a4 a5 a6 cs3 cs6 u_scheme_a1 u_number_a1 u_caption_a1 u_tag_a1 u_term_a1 h0 n0) (T56.setTop (mkF m 93 #[.val (.ref a1), .val (.ref a2), .val (.ref a3), .val (.ref a4), .val (.ref a5), .val (.ref a6)] [(.ref a6), (.ref a1)]))
  have fx59 := (fx54.wr W56)
  have fx60 := (((((((((F_term_a1.ext E8).ext E16).ext E24).other W31 (Or.inr (slot_ne (Or.inr (hw _ (List.mem_of_getElem? (i := 69) rfl))) (Or.inr (hw _ (List.mem_of_getElem? (i := 59) rfl))) (by decide) (t := (.object "java/lang/String")) (t' := (.object "java/lang/String")) (by decide) (by decide)))).other W36 (Or.inr (slot_ne (Or.inr (hw _ (List.mem_of_getElem? (i := 69) rfl))) (Or.inr (hw _ (List.mem_of_getElem? (i := 61) rfl))) (by decide) (t := (.object "java/lang/String")) (t' := (.object "java/lang/String")) (by decide) (by decide)))).ext E39).other W46 (Or.inr (slot_ne (Or.inr (hw _ (List.mem_of_getElem? (i := 69) rfl))) (Or.inr (hw _ (List.mem_of_getElem? (i := 64) rfl))) (by decide) (t := (.object "java/lang/String")) (t' := (.object "java/lang/String")) (by decide) (by decide)))).ext E49).other W56 (Or.inr (slot_ne (Or.inr (hw _ (List.mem_of_getElem? (i := 69) rfl))) (Or.inr (hw _ (List.mem_of_getElem? (i := 67) rfl))) (by decide) (t := (.object "java/lang/String")) (t' := (.object "java/lang/String")) (by decide) (by decide))))
  obtain ⟨T61, h61, X61, e61, W61, st61⟩ := putF Xg56 hx hZ hown (host := "") (Or.inl (hw _ (List.mem_of_getElem? (i := 68) rfl))) Via.refl e56 fx60 fx59 (Or.inr ⟨(hw _ (List.mem_of_getElem? (i := 69) rfl)), rfl, hnm⟩) (hw _ (List.mem_of_getElem? (i := 7) rfl)) (ty := (.object "java/lang/String")) (by decide) rfl rfl (g := (mkF m 93 #[.val (.ref a1), .val (.ref a2), .val (.ref a3), .val (.ref a4), .val (.ref a5), .val (.ref a6)] [(.ref a6), (.ref a1)])) rfl rfl (hb hby d8_93)
  have C63 := C58.trans (CHr.wr W61 (Safe.exa hZ.alike fx59 (by decide) (by decide)) C58.1)
  have hk := Nat.le_trans hk (Keep.of_wr W61).1
  have N61 := Fr.snoc X61 Ng56 g_a1
  have Z61 : n0 ≤ h61.size := Nat.le_trans Z56 (Keep.of_wr W61).1
  have K61 : Keep h0 h61 [a1] := K56.wr W61 (Or.inl (List.mem_of_getElem? (i := 0) rfl))
  obtain ⟨Lg61, Xg61, Ng61⟩ := Stand_gen X61 N61
  have fx62 := fx60.same W61
  refine RunW.go st61 ?_
  show RunW p e below s Z own_EL 10 124 (Q_rm8 Z a1 a2 a3 a4 a5 a6 cs3 cs6 u_scheme_a1 u_number_a1 u_caption_a1 u_tag_a1 u_term_a1 h0 n0) (T61.setTop (mkF m 96 #[.val (.ref a1), .val (.ref a2), .val (.ref a3), .val (.ref a4), .val (.ref a5), .val (.ref a6)] []))
  refine RunW.ret0 Xg61 hx hZ (own_ew hw) hS hk e61 C63 Bd.returns Bd.notSynchronized (hb hby d8_96) (by decide) (by decide) ?_
  show Q_rm8 Z a1 a2 a3 a4 a5 a6 cs3 cs6 u_scheme_a1 u_number_a1 u_caption_a1 u_tag_a1 u_term_a1 h0 n0 _ T61.heap _
  have fx64 := (fx59.wr W61)
  have fx65 := ((((((fx32.other W36 (Or.inr (slot_ne (Or.inr (hw _ (List.mem_of_getElem? (i := 59) rfl))) (Or.inr (hw _ (List.mem_of_getElem? (i := 61) rfl))) (by decide) (t := (.object "java/lang/String")) (t' := (.object "java/lang/String")) (by decide) (by decide)))).ext E39).other W46 (Or.inr (slot_ne (Or.inr (hw _ (List.mem_of_getElem? (i := 59) rfl))) (Or.inr (hw _ (List.mem_of_getElem? (i := 64) rfl))) (by decide) (t := (.object "java/lang/String")) (t' := (.object "java/lang/String")) (by decide) (by decide)))).ext E49).other W56 (Or.inr (slot_ne (Or.inr (hw _ (List.mem_of_getElem? (i := 59) rfl))) (Or.inr (hw _ (List.mem_of_getElem? (i := 67) rfl))) (by decide) (t := (.object "java/lang/String")) (t' := (.object "java/lang/String")) (by decide) (by decide)))).other W61 (Or.inr (slot_ne (Or.inr (hw _ (List.mem_of_getElem? (i := 59) rfl))) (Or.inr (hw _ (List.mem_of_getElem? (i := 69) rfl))) (by decide) (t := (.object "java/lang/String")) (t' := (.object "java/lang/String")) (by decide) (by decide))))
  have fx66 := (((((fx37.ext E39).other W46 (Or.inr (slot_ne (Or.inr (hw _ (List.mem_of_getElem? (i := 61) rfl))) (Or.inr (hw _ (List.mem_of_getElem? (i := 64) rfl))) (by decide) (t := (.object "java/lang/String")) (t' := (.object "java/lang/String")) (by decide) (by decide)))).ext E49).other W56 (Or.inr (slot_ne (Or.inr (hw _ (List.mem_of_getElem? (i := 61) rfl))) (Or.inr (hw _ (List.mem_of_getElem? (i := 67) rfl))) (by decide) (t := (.object "java/lang/String")) (t' := (.object "java/lang/String")) (by decide) (by decide)))).other W61 (Or.inr (slot_ne (Or.inr (hw _ (List.mem_of_getElem? (i := 61) rfl))) (Or.inr (hw _ (List.mem_of_getElem? (i := 69) rfl))) (by decide) (t := (.object "java/lang/String")) (t' := (.object "java/lang/String")) (by decide) (by decide))))
  have fx67 := (((fx47.ext E49).other W56 (Or.inr (slot_ne (Or.inr (hw _ (List.mem_of_getElem? (i := 64) rfl))) (Or.inr (hw _ (List.mem_of_getElem? (i := 67) rfl))) (by decide) (t := (.object "java/lang/String")) (t' := (.object "java/lang/String")) (by decide) (by decide)))).other W61 (Or.inr (slot_ne (Or.inr (hw _ (List.mem_of_getElem? (i := 64) rfl))) (Or.inr (hw _ (List.mem_of_getElem? (i := 69) rfl))) (by decide) (t := (.object "java/lang/String")) (t' := (.object "java/lang/String")) (by decide) (by decide))))
  have fx68 := (fx57.other W61 (Or.inr (slot_ne (Or.inr (hw _ (List.mem_of_getElem? (i := 67) rfl))) (Or.inr (hw _ (List.mem_of_getElem? (i := 69) rfl))) (by decide) (t := (.object "java/lang/String")) (t' := (.object "java/lang/String")) (by decide) (by decide))))
  rw [e61]
  exact ⟨rfl, Ng61, K61, fx64, fx65, fx66, fx67, fx68, fx62⟩
theorem own_eqp {v : Option Value} {cs ds : List Int32} {P : List Loc → Prop} {h k : Heap} (q : ∃ L, (((v = some (.int 1) ∧ cs = ds) ∨ (v = some (.int 0) ∧ ¬ cs = ds)) ∧ L = [] ∧ k = h) ∧ P L) : ∃ L, (v = some (.int (if cs = ds then (1 : Int32) else 0)) ∧ L = [] ∧ k = h) ∧ P L := by
  obtain ⟨L, ⟨r, r2⟩, r3⟩ := q
  refine ⟨L, ⟨?_, r2⟩, r3⟩
  rcases r with ⟨r, e⟩ | ⟨r, e⟩
  · rw [r, if_pos e]
  · rw [r, if_neg e]
theorem d16_0 : decode prog_4_method_8_code 0 = .ok (.aload_n 1, 1) := by decide +kernel
theorem d16_1 : decode prog_4_method_8_code 1 = .ok (.instanceof 33, 3) := by decide +kernel
theorem d16_4 : decode prog_4_method_8_code 4 = .ok (.ifCond .eq 82, 3) := by decide +kernel
theorem d16_7 : decode prog_4_method_8_code 7 = .ok (.aload_n 1, 1) := by decide +kernel
theorem d16_8 : decode prog_4_method_8_code 8 = .ok (.checkcast 33, 3) := by decide +kernel
theorem d16_11 : decode prog_4_method_8_code 11 = .ok (.astore_n 2, 1) := by decide +kernel
theorem d16_12 : decode prog_4_method_8_code 12 = .ok (.aload_n 0, 1) := by decide +kernel
theorem d16_13 : decode prog_4_method_8_code 13 = .ok (.getfield 32, 3) := by decide +kernel
theorem d16_16 : decode prog_4_method_8_code 16 = .ok (.aload_n 2, 1) := by decide +kernel
theorem d16_17 : decode prog_4_method_8_code 17 = .ok (.getfield 32, 3) := by decide +kernel
theorem d16_20 : decode prog_4_method_8_code 20 = .ok (.invokevirtual 129, 3) := by decide +kernel
theorem pd_7 : parseMethodDescriptor "(Ljava/lang/Object;)Z" = some ⟨[(.object "java/lang/Object")], some .boolean⟩ := by decide +kernel
theorem d16_23 : decode prog_4_method_8_code 23 = .ok (.ifCond .eq 63, 3) := by decide +kernel
theorem d16_26 : decode prog_4_method_8_code 26 = .ok (.aload_n 0, 1) := by decide +kernel
theorem d16_27 : decode prog_4_method_8_code 27 = .ok (.getfield 37, 3) := by decide +kernel
theorem d16_30 : decode prog_4_method_8_code 30 = .ok (.aload_n 2, 1) := by decide +kernel
theorem d16_31 : decode prog_4_method_8_code 31 = .ok (.getfield 37, 3) := by decide +kernel
theorem d16_34 : decode prog_4_method_8_code 34 = .ok (.invokevirtual 129, 3) := by decide +kernel
theorem d16_37 : decode prog_4_method_8_code 37 = .ok (.ifCond .eq 49, 3) := by decide +kernel
theorem d16_40 : decode prog_4_method_8_code 40 = .ok (.aload_n 0, 1) := by decide +kernel
theorem d16_41 : decode prog_4_method_8_code 41 = .ok (.getfield 41, 3) := by decide +kernel
theorem d16_44 : decode prog_4_method_8_code 44 = .ok (.aload_n 2, 1) := by decide +kernel
theorem d16_45 : decode prog_4_method_8_code 45 = .ok (.getfield 41, 3) := by decide +kernel
theorem d16_48 : decode prog_4_method_8_code 48 = .ok (.invokevirtual 129, 3) := by decide +kernel
theorem d16_51 : decode prog_4_method_8_code 51 = .ok (.ifCond .eq 35, 3) := by decide +kernel
theorem d16_54 : decode prog_4_method_8_code 54 = .ok (.aload_n 0, 1) := by decide +kernel
theorem d16_55 : decode prog_4_method_8_code 55 = .ok (.getfield 45, 3) := by decide +kernel
theorem d16_58 : decode prog_4_method_8_code 58 = .ok (.aload_n 2, 1) := by decide +kernel
theorem d16_59 : decode prog_4_method_8_code 59 = .ok (.getfield 45, 3) := by decide +kernel
theorem d16_62 : decode prog_4_method_8_code 62 = .ok (.invokevirtual 129, 3) := by decide +kernel
theorem d16_65 : decode prog_4_method_8_code 65 = .ok (.ifCond .eq 21, 3) := by decide +kernel
theorem d16_68 : decode prog_4_method_8_code 68 = .ok (.aload_n 0, 1) := by decide +kernel
theorem d16_69 : decode prog_4_method_8_code 69 = .ok (.getfield 47, 3) := by decide +kernel
theorem d16_72 : decode prog_4_method_8_code 72 = .ok (.aload_n 2, 1) := by decide +kernel
theorem d16_73 : decode prog_4_method_8_code 73 = .ok (.getfield 47, 3) := by decide +kernel
theorem d16_76 : decode prog_4_method_8_code 76 = .ok (.invokevirtual 129, 3) := by decide +kernel
theorem d16_79 : decode prog_4_method_8_code 79 = .ok (.ifCond .eq 7, 3) := by decide +kernel
theorem d16_82 : decode prog_4_method_8_code 82 = .ok (.iconst 1, 1) := by decide +kernel
theorem d16_83 : decode prog_4_method_8_code 83 = .ok (.goto 4, 3) := by decide +kernel
theorem d16_86 : decode prog_4_method_8_code 86 = .ok (.iconst 0, 1) := by decide +kernel
theorem d16_87 : decode prog_4_method_8_code 87 = .ok (.ireturn, 1) := by decide +kernel
def F_rm16 (ca0 : List Int32) (ca1 : List Int32) (ca2 : List Int32) (ca3 : List Int32) (ca4 : List Int32) (da0 : List Int32) (da1 : List Int32) (da2 : List Int32) (da3 : List Int32) (da4 : List Int32) : Int32 := let w31 : Int32 := (if ((ca0 = da0) ∧ ((ca1 = da1) ∧ ((ca2 = da2) ∧ ((ca3 = da3) ∧ (ca4 = da4))))) then (1 : Int32) else 0); w31
def Q_rm16 (Z : State) (a1 : Addr) (a2 : Addr) (cs : Int32) (s0 : Addr) (s1 : Addr) (s2 : Addr) (s3 : Addr) (s4 : Addr) (t0 : Addr) (t1 : Addr) (t2 : Addr) (t3 : Addr) (t4 : Addr) (ca0 : List Int32) (ca1 : List Int32) (ca2 : List Int32) (ca3 : List Int32) (ca4 : List Int32) (da0 : List Int32) (da1 : List Int32) (da2 : List Int32) (da3 : List Int32) (da4 : List Int32) (h0 : Heap) (n0 : Nat) (v : Option Value) (h : Heap) (L : List Loc) : Prop := v = some (.int (F_rm16 ca0 ca1 ca2 ca3 ca4 da0 da1 da2 da3 da4)) ∧ Fr n0 L ∧ h = h0
theorem ef_rm16 (m : MethodId) (x0 : Addr) (x1 : Addr) : entryFrame m #[(.ref x0), (.ref x1)] 3 = mkF m 0 #[.val (.ref x0), .val (.ref x1), .unset] [] := by first | (simp [entryFrame, mkF, argsToLocals, Value.category]; done) | rfl
set_option maxRecDepth 65536 in
set_option maxHeartbeats 40000000 in
theorem rm16 (l : Launch) (Z : State) (a0 : Array Value) (hw : ∀ d ∈ tables_1, d.before a0 Z = true) (ws : List Jvm.Cond) (a1 : Addr) (a2 : Addr) (cs : Int32) (s0 : Addr) (s1 : Addr) (s2 : Addr) (s3 : Addr) (s4 : Addr) (t0 : Addr) (t1 : Addr) (t2 : Addr) (t3 : Addr) (t4 : Addr) (ca0 : List Int32) (ca1 : List Int32) (ca2 : List Int32) (ca3 : List Int32) (ca4 : List Int32) (da0 : List Int32) (da1 : List Int32) (da2 : List Int32) (da3 : List Int32) (da4 : List Int32) (h0 : Heap) (n0 : Nat) (Z0 : n0 ≤ h0.size) (S_String_COMPACT_STRINGS : Sta Z h0 "java/lang/String" "COMPACT_STRINGS" "Z" (.int cs)) (hcs : ¬ (cs = (0 : Int32))) (E_a1 : Exa Z h0 a1 "com/example/subjectory/subjectory/heading/ClassLink") (F_scheme_a1 : Fld Z h0 a1 "com/example/subjectory/subjectory/heading/ClassLink" "scheme" "Ljava/lang/String;" (.ref s0)) (F_number_a1 : Fld Z h0 a1 "com/example/subjectory/subjectory/heading/ClassLink" "number" "Ljava/lang/String;" (.ref s1)) (F_caption_a1 : Fld Z h0 a1 "com/example/subjectory/subjectory/heading/ClassLink" "caption" "Ljava/lang/String;" (.ref s2)) (F_tag_a1 : Fld Z h0 a1 "com/example/subjectory/subjectory/heading/ClassLink" "tag" "Ljava/lang/String;" (.ref s3)) (F_term_a1 : Fld Z h0 a1 "com/example/subjectory/subjectory/heading/ClassLink" "term" "Ljava/lang/String;" (.ref s4)) (E_s0 : Exa Z h0 s0 "java/lang/String") (hX_s0 : SStr Z h0 s0 ca0) (E_s1 : Exa Z h0 s1 "java/lang/String") (hX_s1 : SStr Z h0 s1 ca1) (E_s2 : Exa Z h0 s2 "java/lang/String") (hX_s2 : SStr Z h0 s2 ca2) (E_s3 : Exa Z h0 s3 "java/lang/String") (hX_s3 : SStr Z h0 s3 ca3) (E_s4 : Exa Z h0 s4 "java/lang/String") (hX_s4 : SStr Z h0 s4 ca4) (E_a2 : Exa Z h0 a2 "com/example/subjectory/subjectory/heading/ClassLink") (F_scheme_a2 : Fld Z h0 a2 "com/example/subjectory/subjectory/heading/ClassLink" "scheme" "Ljava/lang/String;" (.ref t0)) (F_number_a2 : Fld Z h0 a2 "com/example/subjectory/subjectory/heading/ClassLink" "number" "Ljava/lang/String;" (.ref t1)) (F_caption_a2 : Fld Z h0 a2 "com/example/subjectory/subjectory/heading/ClassLink" "caption" "Ljava/lang/String;" (.ref t2)) (F_tag_a2 : Fld Z h0 a2 "com/example/subjectory/subjectory/heading/ClassLink" "tag" "Ljava/lang/String;" (.ref t3)) (F_term_a2 : Fld Z h0 a2 "com/example/subjectory/subjectory/heading/ClassLink" "term" "Ljava/lang/String;" (.ref t4)) (E_t0 : Exa Z h0 t0 "java/lang/String") (hX_t0 : SStr Z h0 t0 da0) (E_t1 : Exa Z h0 t1 "java/lang/String") (hX_t1 : SStr Z h0 t1 da1) (E_t2 : Exa Z h0 t2 "java/lang/String") (hX_t2 : SStr Z h0 t2 da2) (E_t3 : Exa Z h0 t3 "java/lang/String") (hX_t3 : SStr Z h0 t3 da3) (E_t4 : Exa Z h0 t4 "java/lang/String") (hX_t4 : SStr Z h0 t4 da4) :
    MetFree l (⟨"com/example/subjectory/subjectory/heading/ClassLink", "equals", "(Ljava/lang/Object;)Z"⟩ : MethodName) (head1 (Jvm.Cond.code (⟨"com/example/subjectory/subjectory/heading/ClassLink", "equals", "(Ljava/lang/Object;)Z"⟩ : MethodName) prog_4_method_8_code 3 (some .boolean) :: ws) ({ frames := 2, cells := 0, slots := 0, locals := 28 } : Room)) (fun a U => a = #[(.ref a1), (.ref a2)] ∧ Z.Warmed39 U.vm ∧ U.heap = h0) (fun _ _ _ _ _ => True) (fun _ U o U' => ∃ v L, o = .returned v ∧ Q_rm16 Z a1 a2 cs s0 s1 s2 s3 s4 t0 t1 t2 t3 t4 ca0 ca1 ca2 ca3 ca4 da0 da1 da2 da3 da4 h0 n0 v U'.heap L ∧ FrameEnd U o U' L ({ frames := 2, cells := 0, slots := 0, locals := 28 } : Room).cells ({ frames := 2, cells := 0, slots := 0, locals := 28 } : Room).slots) := by
  refine MetFree.of_bodySF (plainFor_of_name pn_4) hisR ?_
  intro p e s m args below meth c s₁ Bd hml0 hP hK
  obtain ⟨rfl, hZ, hh⟩ := hP
  have hx := Bd.exec
  have hby := Bd.bytes
  have hml : c.maxLocals = 3 := hml0
  have hown : s.vm.findClass "com/example/subjectory/subjectory/heading/ClassLink" = some m.cls := findClass_of_methodNamed Bd.named
  have hnm := (name_of_methodNamed Bd.named Bd.method).1
  have X0 : Stand p l e ({ frames := 2, cells := 0, slots := 0, locals := 28 } : Room) s m #[(.ref a1), (.ref a2)] below meth c s₁ [] 0 0 := Stand.of_body Bd
  have e0 : s₁.heap = h0 := by rw [← hh, Bd.state]; rfl
  have N0 := Fr.nil n0
  show Run p e below s 0 0 (Q_rm16 Z a1 a2 cs s0 s1 s2 s3 s4 t0 t1 t2 t3 t4 ca0 ca1 ca2 ca3 ca4 da0 da1 da2 da3 da4 h0 n0) (s₁.setTop (entryFrame m #[(.ref a1), (.ref a2)] 3))
  refine Run.go (fun _ k => castTop (ef_rm16 m a1 a2) k) ?_
  show Run p e below s 0 0 (Q_rm16 Z a1 a2 cs s0 s1 s2 s3 s4 t0 t1 t2 t3 t4 ca0 ca1 ca2 ca3 ca4 da0 da1 da2 da3 da4 h0 n0) (s₁.setTop (mkF m 0 #[.val (.ref a1), .val (.ref a2), .unset] []))
  refine Run.go (fun _ k => XS.aloadN X0.here hx rfl (hb hby d16_0) rfl rfl k) ?_
  show Run p e below s 0 0 (Q_rm16 Z a1 a2 cs s0 s1 s2 s3 s4 t0 t1 t2 t3 t4 ca0 ca1 ca2 ca3 ca4 da0 da1 da2 da3 da4 h0 n0) (s₁.setTop (mkF m 1 #[.val (.ref a1), .val (.ref a2), .unset] [(.ref a2)]))
  obtain ⟨T3, X3, e3, st3⟩ := instY X0 hx hZ hown (hw _ (List.mem_of_getElem? (i := 93) rfl)) e0 (Ins.self E_a2) (g := (mkF m 1 #[.val (.ref a1), .val (.ref a2), .unset] [(.ref a2)])) rfl rfl (hb hby d16_1)
  refine Run.go st3 ?_
  show Run p e below s 0 0 (Q_rm16 Z a1 a2 cs s0 s1 s2 s3 s4 t0 t1 t2 t3 t4 ca0 ca1 ca2 ca3 ca4 da0 da1 da2 da3 da4 h0 n0) (T3.setTop (mkF m 4 #[.val (.ref a1), .val (.ref a2), .unset] [(.int (1 : Int32))]))
  refine Run.go (fun _ k => XS.ifNo X3.here hx rfl (hb hby d16_4) rfl ((if0 _ _).trans (feq (by decide)).1) k) ?_
  show Run p e below s 0 0 (Q_rm16 Z a1 a2 cs s0 s1 s2 s3 s4 t0 t1 t2 t3 t4 ca0 ca1 ca2 ca3 ca4 da0 da1 da2 da3 da4 h0 n0) (T3.setTop (mkF m 7 #[.val (.ref a1), .val (.ref a2), .unset] []))
  refine Run.go (fun _ k => XS.aloadN X3.here hx rfl (hb hby d16_7) rfl rfl k) ?_
  show Run p e below s 0 0 (Q_rm16 Z a1 a2 cs s0 s1 s2 s3 s4 t0 t1 t2 t3 t4 ca0 ca1 ca2 ca3 ca4 da0 da1 da2 da3 da4 h0 n0) (T3.setTop (mkF m 8 #[.val (.ref a1), .val (.ref a2), .unset] [(.ref a2)]))
  obtain ⟨T4, X4, e4, st4⟩ := castY X3 hx hZ hown (hw _ (List.mem_of_getElem? (i := 93) rfl)) e3 (Ins.self E_a2) (g := (mkF m 8 #[.val (.ref a1), .val (.ref a2), .unset] [(.ref a2)])) rfl rfl (hb hby d16_8)
  refine Run.go st4 ?_
  show Run p e below s 0 0 (Q_rm16 Z a1 a2 cs s0 s1 s2 s3 s4 t0 t1 t2 t3 t4 ca0 ca1 ca2 ca3 ca4 da0 da1 da2 da3 da4 h0 n0) (T4.setTop (mkF m 11 #[.val (.ref a1), .val (.ref a2), .unset] [(.ref a2)]))
  refine Run.go (fun _ k => XS.astoreN X4.here hx rfl (hb hby d16_11) rfl rfl (l' := #[.val (.ref a1), .val (.ref a2), .val (.ref a2)]) rfl k) ?_
  show Run p e below s 0 0 (Q_rm16 Z a1 a2 cs s0 s1 s2 s3 s4 t0 t1 t2 t3 t4 ca0 ca1 ca2 ca3 ca4 da0 da1 da2 da3 da4 h0 n0) (T4.setTop (mkF m 12 #[.val (.ref a1), .val (.ref a2), .val (.ref a2)] []))
  refine Run.go (fun _ k => XS.aloadN X4.here hx rfl (hb hby d16_12) rfl rfl k) ?_
  show Run p e below s 0 0 (Q_rm16 Z a1 a2 cs s0 s1 s2 s3 s4 t0 t1 t2 t3 t4 ca0 ca1 ca2 ca3 ca4 da0 da1 da2 da3 da4 h0 n0) (T4.setTop (mkF m 13 #[.val (.ref a1), .val (.ref a2), .val (.ref a2)] [(.ref a1)]))
  obtain ⟨T5, X5, e5, st5⟩ := getF X4 hx hZ hown (host := "") (Or.inl (hw _ (List.mem_of_getElem? (i := 58) rfl))) Via.refl e4 F_scheme_a1 (g := (mkF m 13 #[.val (.ref a1), .val (.ref a2), .val (.ref a2)] [(.ref a1)])) rfl rfl (hb hby d16_13)
  refine Run.go st5 ?_
  show Run p e below s 0 0 (Q_rm16 Z a1 a2 cs s0 s1 s2 s3 s4 t0 t1 t2 t3 t4 ca0 ca1 ca2 ca3 ca4 da0 da1 da2 da3 da4 h0 n0) (T5.setTop (mkF m 16 #[.val (.ref a1), .val (.ref a2), .val (.ref a2)] [(.ref s0)]))
  refine Run.go (fun _ k => XS.aloadN X5.here hx rfl (hb hby d16_16) rfl rfl k) ?_
  show Run p e below s 0 0 (Q_rm16 Z a1 a2 cs s0 s1 s2 s3 s4 t0 t1 t2 t3 t4 ca0 ca1 ca2 ca3 ca4 da0 da1 da2 da3 da4 h0 n0) (T5.setTop (mkF m 17 #[.val (.ref a1), .val (.ref a2), .val (.ref a2)] [(.ref a2), (.ref s0)]))
  obtain ⟨T6, X6, e6, st6⟩ := getF X5 hx hZ hown (host := "") (Or.inl (hw _ (List.mem_of_getElem? (i := 58) rfl))) Via.refl e5 F_scheme_a2 (g := (mkF m 17 #[.val (.ref a1), .val (.ref a2), .val (.ref a2)] [(.ref a2), (.ref s0)])) rfl rfl (hb hby d16_17)
  refine Run.go st6 ?_
  show Run p e below s 0 0 (Q_rm16 Z a1 a2 cs s0 s1 s2 s3 s4 t0 t1 t2 t3 t4 ca0 ca1 ca2 ca3 ca4 da0 da1 da2 da3 da4 h0 n0) (T6.setTop (mkF m 20 #[.val (.ref a1), .val (.ref a2), .val (.ref a2)] [(.ref t0), (.ref s0)]))
  obtain ⟨o8t, o8k, o8E, o8V, o8C, o8K, o8b, o8l⟩ := id hX_s0
  obtain ⟨o9t, o9k, o9E, o9V, o9C, o9K, o9b, o9l⟩ := id hX_t0
  obtain ⟨cq7, kq7, q7a, q7b, q7c⟩ := isOf hZ e6 E_s0
  obtain ⟨_, _, ⟨T7, L7, k7, n7⟩, -, X7, ⟨Lc7, hQ7, l7, y7, z7⟩, st7⟩ := X6.virtualBack hx (y := (⟨"java/lang/String", "equals", "(Ljava/lang/Object;)Z"⟩ : MethodName)) (z := (⟨"java/lang/String", "equals", "(Ljava/lang/Object;)Z"⟩ : MethodName)) hown (mvT hZ (hw _ (List.mem_of_getElem? (i := 95) rfl))) (mvT hZ (hw _ (List.mem_of_getElem? (i := 96) rfl))) (notFace_of_selects (args := #[]) (mvT hZ (hw _ (List.mem_of_getElem? (i := 98) rfl)))) (mvT hZ (hw _ (List.mem_of_getElem? (i := 98) rfl))) (mvT hZ (hw _ (List.mem_of_getElem? (i := 97) rfl))) (by decide) (Back.mono (StrChars.Road.eqW (W := 0) hZ (fun d hd => hw d (own_wQ d hd)) (kI := 4) (hw _ (List.mem_of_getElem? (i := 14) rfl)) o8E o8V o8C o8K (own_cod o8b) (own_up o8b) (Nat.le_trans o8l (by decide)) o9E o9V o9C o9K (own_cod o9b) (own_up o9b) (Nat.le_trans o9l (by decide)) S_String_COMPACT_STRINGS hcs (by decide) (by decide)) (fun P a hp => hp) (fun P a v B hp hq => own_eqp hq)) q7a q7c (g := (mkF m 20 #[.val (.ref a1), .val (.ref a2), .val (.ref a2)] [(.ref t0), (.ref s0)])) rfl (by rw [hml]; rfl) (Steps.refl _) (argsL := [(.ref t0)]) (rest := []) (lenOf pd_7 rfl) rfl (by show 2 * 0 + _ ≤ _; exact Nat.le_of_eq rfl) (hb hby d16_20) (fun _ _ => ⟨rfl, e6, (by decide : 0 + 0 ≤ _), (by decide : 0 + 0 ≤ _)⟩)
  dsimp only [Pt.U, Pt.locs, Pt.cells, Pt.slots] at X7 l7 y7 z7 st7 hQ7
  subst l7 y7 z7
  obtain ⟨rfl, rfl, e7q⟩ := hQ7
  have N7q := Fr.nil n0
  have N7 := Fr.app N0 N7q
  obtain ⟨Lg7, Xg7, Ng7⟩ := Stand_gen X7 N7
  refine Run.tr st7 ?_
  show Run p e below s 0 0 (Q_rm16 Z a1 a2 cs s0 s1 s2 s3 s4 t0 t1 t2 t3 t4 ca0 ca1 ca2 ca3 ca4 da0 da1 da2 da3 da4 h0 n0) (T7.setTop (mkF m 23 #[.val (.ref a1), .val (.ref a2), .val (.ref a2)] [(.int (if ca0 = da0 then (1 : Int32) else 0))]))
  have J30 : ∀ (w31 : Int32) (hw31 : w31 = (if ((ca0 = da0) ∧ ((ca1 = da1) ∧ ((ca2 = da2) ∧ ((ca3 = da3) ∧ (ca4 = da4))))) then (1 : Int32) else 0)) (T32 : State) (L32 : List Loc) (X32 : Stand p l e ({ frames := 2, cells := 0, slots := 0, locals := 28 } : Room) s m #[(.ref a1), (.ref a2)] below meth c T32 L32 0 0) (e32 : T32.heap = h0) (N32 : Fr n0 L32), Run p e below s 0 0 (Q_rm16 Z a1 a2 cs s0 s1 s2 s3 s4 t0 t1 t2 t3 t4 ca0 ca1 ca2 ca3 ca4 da0 da1 da2 da3 da4 h0 n0) (T32.setTop (mkF m 87 #[.val (.ref a1), .val (.ref a2), .val (.ref a2)] [(.int w31)])) := by
    intro w31 hw31 T32 L32 X32 e32 N32
    show Run p e below s 0 0 (Q_rm16 Z a1 a2 cs s0 s1 s2 s3 s4 t0 t1 t2 t3 t4 ca0 ca1 ca2 ca3 ca4 da0 da1 da2 da3 da4 h0 n0) (T32.setTop (mkF m 87 #[.val (.ref a1), .val (.ref a2), .val (.ref a2)] [(.int w31)]))
    refine Run.retN (y := w31) X32 hx (t := .boolean) Bd.returns (by simp) (by rw [hw31]; exact nar_ite _) Bd.notSynchronized (hb hby d16_87) (by decide) (by decide) ?_
    show Q_rm16 Z a1 a2 cs s0 s1 s2 s3 s4 t0 t1 t2 t3 t4 ca0 ca1 ca2 ca3 ca4 da0 da1 da2 da3 da4 h0 n0 _ T32.heap _
    exact ⟨congrArg some (congrArg Value.int (show w31 = (F_rm16 ca0 ca1 ca2 ca3 ca4 da0 da1 da2 da3 da4) from (by subst hw31; unfold F_rm16; rfl))), N32, e32⟩
  by_cases hc33 : (ca0 = da0)
  · refine Run.go (fun _ k => XS.ifNo Xg7.here hx rfl (hb hby d16_23) rfl ((if0 _ _).trans (feq (by rw [if_pos hc33]; decide)).1) k) ?_
    show Run p e below s 0 0 (Q_rm16 Z a1 a2 cs s0 s1 s2 s3 s4 t0 t1 t2 t3 t4 ca0 ca1 ca2 ca3 ca4 da0 da1 da2 da3 da4 h0 n0) (T7.setTop (mkF m 26 #[.val (.ref a1), .val (.ref a2), .val (.ref a2)] []))
    refine Run.go (fun _ k => XS.aloadN Xg7.here hx rfl (hb hby d16_26) rfl rfl k) ?_
    show Run p e below s 0 0 (Q_rm16 Z a1 a2 cs s0 s1 s2 s3 s4 t0 t1 t2 t3 t4 ca0 ca1 ca2 ca3 ca4 da0 da1 da2 da3 da4 h0 n0) (T7.setTop (mkF m 27 #[.val (.ref a1), .val (.ref a2), .val (.ref a2)] [(.ref a1)]))
    obtain ⟨T34, X34, e34, st34⟩ := getF Xg7 hx hZ hown (host := "") (Or.inl (hw _ (List.mem_of_getElem? (i := 60) rfl))) Via.refl e7q F_number_a1 (g := (mkF m 27 #[.val (.ref a1), .val (.ref a2), .val (.ref a2)] [(.ref a1)])) rfl rfl (hb hby d16_27)
    refine Run.go st34 ?_
    show Run p e below s 0 0 (Q_rm16 Z a1 a2 cs s0 s1 s2 s3 s4 t0 t1 t2 t3 t4 ca0 ca1 ca2 ca3 ca4 da0 da1 da2 da3 da4 h0 n0) (T34.setTop (mkF m 30 #[.val (.ref a1), .val (.ref a2), .val (.ref a2)] [(.ref s1)]))
    refine Run.go (fun _ k => XS.aloadN X34.here hx rfl (hb hby d16_30) rfl rfl k) ?_
    show Run p e below s 0 0 (Q_rm16 Z a1 a2 cs s0 s1 s2 s3 s4 t0 t1 t2 t3 t4 ca0 ca1 ca2 ca3 ca4 da0 da1 da2 da3 da4 h0 n0) (T34.setTop (mkF m 31 #[.val (.ref a1), .val (.ref a2), .val (.ref a2)] [(.ref a2), (.ref s1)]))
    obtain ⟨T35, X35, e35, st35⟩ := getF X34 hx hZ hown (host := "") (Or.inl (hw _ (List.mem_of_getElem? (i := 60) rfl))) Via.refl e34 F_number_a2 (g := (mkF m 31 #[.val (.ref a1), .val (.ref a2), .val (.ref a2)] [(.ref a2), (.ref s1)])) rfl rfl (hb hby d16_31)
    refine Run.go st35 ?_
    show Run p e below s 0 0 (Q_rm16 Z a1 a2 cs s0 s1 s2 s3 s4 t0 t1 t2 t3 t4 ca0 ca1 ca2 ca3 ca4 da0 da1 da2 da3 da4 h0 n0) (T35.setTop (mkF m 34 #[.val (.ref a1), .val (.ref a2), .val (.ref a2)] [(.ref t1), (.ref s1)]))
    obtain ⟨o37t, o37k, o37E, o37V, o37C, o37K, o37b, o37l⟩ := id hX_s1
    obtain ⟨o38t, o38k, o38E, o38V, o38C, o38K, o38b, o38l⟩ := id hX_t1
    obtain ⟨cq36, kq36, q36a, q36b, q36c⟩ := isOf hZ e35 E_s1
    obtain ⟨_, _, ⟨T36, L36, k36, n36⟩, -, X36, ⟨Lc36, hQ36, l36, y36, z36⟩, st36⟩ := X35.virtualBack hx (y := (⟨"java/lang/String", "equals", "(Ljava/lang/Object;)Z"⟩ : MethodName)) (z := (⟨"java/lang/String", "equals", "(Ljava/lang/Object;)Z"⟩ : MethodName)) hown (mvT hZ (hw _ (List.mem_of_getElem? (i := 95) rfl))) (mvT hZ (hw _ (List.mem_of_getElem? (i := 96) rfl))) (notFace_of_selects (args := #[]) (mvT hZ (hw _ (List.mem_of_getElem? (i := 98) rfl)))) (mvT hZ (hw _ (List.mem_of_getElem? (i := 98) rfl))) (mvT hZ (hw _ (List.mem_of_getElem? (i := 97) rfl))) (by decide) (Back.mono (StrChars.Road.eqW (W := 0) hZ (fun d hd => hw d (own_wQ d hd)) (kI := 4) (hw _ (List.mem_of_getElem? (i := 14) rfl)) o37E o37V o37C o37K (own_cod o37b) (own_up o37b) (Nat.le_trans o37l (by decide)) o38E o38V o38C o38K (own_cod o38b) (own_up o38b) (Nat.le_trans o38l (by decide)) S_String_COMPACT_STRINGS hcs (by decide) (by decide)) (fun P a hp => hp) (fun P a v B hp hq => own_eqp hq)) q36a q36c (g := (mkF m 34 #[.val (.ref a1), .val (.ref a2), .val (.ref a2)] [(.ref t1), (.ref s1)])) rfl (by rw [hml]; rfl) (Steps.refl _) (argsL := [(.ref t1)]) (rest := []) (lenOf pd_7 rfl) rfl (by show 2 * 0 + _ ≤ _; exact Nat.le_of_eq rfl) (hb hby d16_34) (fun _ _ => ⟨rfl, e35, (by decide : 0 + 0 ≤ _), (by decide : 0 + 0 ≤ _)⟩)
    dsimp only [Pt.U, Pt.locs, Pt.cells, Pt.slots] at X36 l36 y36 z36 st36 hQ36
    subst l36 y36 z36
    obtain ⟨rfl, rfl, e36q⟩ := hQ36
    have N36q := Fr.nil n0
    have N36 := Fr.app Ng7 N36q
    obtain ⟨Lg36, Xg36, Ng36⟩ := Stand_gen X36 N36
    refine Run.tr st36 ?_
    show Run p e below s 0 0 (Q_rm16 Z a1 a2 cs s0 s1 s2 s3 s4 t0 t1 t2 t3 t4 ca0 ca1 ca2 ca3 ca4 da0 da1 da2 da3 da4 h0 n0) (T36.setTop (mkF m 37 #[.val (.ref a1), .val (.ref a2), .val (.ref a2)] [(.int (if ca1 = da1 then (1 : Int32) else 0))]))
    by_cases hc39 : (ca1 = da1)
    · refine Run.go (fun _ k => XS.ifNo Xg36.here hx rfl (hb hby d16_37) rfl ((if0 _ _).trans (feq (by rw [if_pos hc39]; decide)).1) k) ?_
      show Run p e below s 0 0 (Q_rm16 Z a1 a2 cs s0 s1 s2 s3 s4 t0 t1 t2 t3 t4 ca0 ca1 ca2 ca3 ca4 da0 da1 da2 da3 da4 h0 n0) (T36.setTop (mkF m 40 #[.val (.ref a1), .val (.ref a2), .val (.ref a2)] []))
      refine Run.go (fun _ k => XS.aloadN Xg36.here hx rfl (hb hby d16_40) rfl rfl k) ?_
      show Run p e below s 0 0 (Q_rm16 Z a1 a2 cs s0 s1 s2 s3 s4 t0 t1 t2 t3 t4 ca0 ca1 ca2 ca3 ca4 da0 da1 da2 da3 da4 h0 n0) (T36.setTop (mkF m 41 #[.val (.ref a1), .val (.ref a2), .val (.ref a2)] [(.ref a1)]))
      obtain ⟨T40, X40, e40, st40⟩ := getF Xg36 hx hZ hown (host := "") (Or.inl (hw _ (List.mem_of_getElem? (i := 63) rfl))) Via.refl e36q F_caption_a1 (g := (mkF m 41 #[.val (.ref a1), .val (.ref a2), .val (.ref a2)] [(.ref a1)])) rfl rfl (hb hby d16_41)
      refine Run.go st40 ?_
      show Run p e below s 0 0 (Q_rm16 Z a1 a2 cs s0 s1 s2 s3 s4 t0 t1 t2 t3 t4 ca0 ca1 ca2 ca3 ca4 da0 da1 da2 da3 da4 h0 n0) (T40.setTop (mkF m 44 #[.val (.ref a1), .val (.ref a2), .val (.ref a2)] [(.ref s2)]))
      refine Run.go (fun _ k => XS.aloadN X40.here hx rfl (hb hby d16_44) rfl rfl k) ?_
      show Run p e below s 0 0 (Q_rm16 Z a1 a2 cs s0 s1 s2 s3 s4 t0 t1 t2 t3 t4 ca0 ca1 ca2 ca3 ca4 da0 da1 da2 da3 da4 h0 n0) (T40.setTop (mkF m 45 #[.val (.ref a1), .val (.ref a2), .val (.ref a2)] [(.ref a2), (.ref s2)]))
      obtain ⟨T41, X41, e41, st41⟩ := getF X40 hx hZ hown (host := "") (Or.inl (hw _ (List.mem_of_getElem? (i := 63) rfl))) Via.refl e40 F_caption_a2 (g := (mkF m 45 #[.val (.ref a1), .val (.ref a2), .val (.ref a2)] [(.ref a2), (.ref s2)])) rfl rfl (hb hby d16_45)
      refine Run.go st41 ?_
      show Run p e below s 0 0 (Q_rm16 Z a1 a2 cs s0 s1 s2 s3 s4 t0 t1 t2 t3 t4 ca0 ca1 ca2 ca3 ca4 da0 da1 da2 da3 da4 h0 n0) (T41.setTop (mkF m 48 #[.val (.ref a1), .val (.ref a2), .val (.ref a2)] [(.ref t2), (.ref s2)]))
      obtain ⟨o43t, o43k, o43E, o43V, o43C, o43K, o43b, o43l⟩ := id hX_s2
      obtain ⟨o44t, o44k, o44E, o44V, o44C, o44K, o44b, o44l⟩ := id hX_t2
      obtain ⟨cq42, kq42, q42a, q42b, q42c⟩ := isOf hZ e41 E_s2
      obtain ⟨_, _, ⟨T42, L42, k42, n42⟩, -, X42, ⟨Lc42, hQ42, l42, y42, z42⟩, st42⟩ := X41.virtualBack hx (y := (⟨"java/lang/String", "equals", "(Ljava/lang/Object;)Z"⟩ : MethodName)) (z := (⟨"java/lang/String", "equals", "(Ljava/lang/Object;)Z"⟩ : MethodName)) hown (mvT hZ (hw _ (List.mem_of_getElem? (i := 95) rfl))) (mvT hZ (hw _ (List.mem_of_getElem? (i := 96) rfl))) (notFace_of_selects (args := #[]) (mvT hZ (hw _ (List.mem_of_getElem? (i := 98) rfl)))) (mvT hZ (hw _ (List.mem_of_getElem? (i := 98) rfl))) (mvT hZ (hw _ (List.mem_of_getElem? (i := 97) rfl))) (by decide) (Back.mono (StrChars.Road.eqW (W := 0) hZ (fun d hd => hw d (own_wQ d hd)) (kI := 4) (hw _ (List.mem_of_getElem? (i := 14) rfl)) o43E o43V o43C o43K (own_cod o43b) (own_up o43b) (Nat.le_trans o43l (by decide)) o44E o44V o44C o44K (own_cod o44b) (own_up o44b) (Nat.le_trans o44l (by decide)) S_String_COMPACT_STRINGS hcs (by decide) (by decide)) (fun P a hp => hp) (fun P a v B hp hq => own_eqp hq)) q42a q42c (g := (mkF m 48 #[.val (.ref a1), .val (.ref a2), .val (.ref a2)] [(.ref t2), (.ref s2)])) rfl (by rw [hml]; rfl) (Steps.refl _) (argsL := [(.ref t2)]) (rest := []) (lenOf pd_7 rfl) rfl (by show 2 * 0 + _ ≤ _; exact Nat.le_of_eq rfl) (hb hby d16_48) (fun _ _ => ⟨rfl, e41, (by decide : 0 + 0 ≤ _), (by decide : 0 + 0 ≤ _)⟩)
      dsimp only [Pt.U, Pt.locs, Pt.cells, Pt.slots] at X42 l42 y42 z42 st42 hQ42
      subst l42 y42 z42
      obtain ⟨rfl, rfl, e42q⟩ := hQ42
      have N42q := Fr.nil n0
      have N42 := Fr.app Ng36 N42q
      obtain ⟨Lg42, Xg42, Ng42⟩ := Stand_gen X42 N42
      refine Run.tr st42 ?_
      show Run p e below s 0 0 (Q_rm16 Z a1 a2 cs s0 s1 s2 s3 s4 t0 t1 t2 t3 t4 ca0 ca1 ca2 ca3 ca4 da0 da1 da2 da3 da4 h0 n0) (T42.setTop (mkF m 51 #[.val (.ref a1), .val (.ref a2), .val (.ref a2)] [(.int (if ca2 = da2 then (1 : Int32) else 0))]))
      by_cases hc45 : (ca2 = da2)
      · refine Run.go (fun _ k => XS.ifNo Xg42.here hx rfl (hb hby d16_51) rfl ((if0 _ _).trans (feq (by rw [if_pos hc45]; decide)).1) k) ?_
        show Run p e below s 0 0 (Q_rm16 Z a1 a2 cs s0 s1 s2 s3 s4 t0 t1 t2 t3 t4 ca0 ca1 ca2 ca3 ca4 da0 da1 da2 da3 da4 h0 n0) (T42.setTop (mkF m 54 #[.val (.ref a1), .val (.ref a2), .val (.ref a2)] []))
        refine Run.go (fun _ k => XS.aloadN Xg42.here hx rfl (hb hby d16_54) rfl rfl k) ?_
        show Run p e below s 0 0 (Q_rm16 Z a1 a2 cs s0 s1 s2 s3 s4 t0 t1 t2 t3 t4 ca0 ca1 ca2 ca3 ca4 da0 da1 da2 da3 da4 h0 n0) (T42.setTop (mkF m 55 #[.val (.ref a1), .val (.ref a2), .val (.ref a2)] [(.ref a1)]))
        obtain ⟨T46, X46, e46, st46⟩ := getF Xg42 hx hZ hown (host := "") (Or.inl (hw _ (List.mem_of_getElem? (i := 66) rfl))) Via.refl e42q F_tag_a1 (g := (mkF m 55 #[.val (.ref a1), .val (.ref a2), .val (.ref a2)] [(.ref a1)])) rfl rfl (hb hby d16_55)
        refine Run.go st46 ?_
        show Run p e below s 0 0 (Q_rm16 Z a1 a2 cs s0 s1 s2 s3 s4 t0 t1 t2 t3 t4 ca0 ca1 ca2 ca3 ca4 da0 da1 da2 da3 da4 h0 n0) (T46.setTop (mkF m 58 #[.val (.ref a1), .val (.ref a2), .val (.ref a2)] [(.ref s3)]))
        refine Run.go (fun _ k => XS.aloadN X46.here hx rfl (hb hby d16_58) rfl rfl k) ?_
        show Run p e below s 0 0 (Q_rm16 Z a1 a2 cs s0 s1 s2 s3 s4 t0 t1 t2 t3 t4 ca0 ca1 ca2 ca3 ca4 da0 da1 da2 da3 da4 h0 n0) (T46.setTop (mkF m 59 #[.val (.ref a1), .val (.ref a2), .val (.ref a2)] [(.ref a2), (.ref s3)]))
        obtain ⟨T47, X47, e47, st47⟩ := getF X46 hx hZ hown (host := "") (Or.inl (hw _ (List.mem_of_getElem? (i := 66) rfl))) Via.refl e46 F_tag_a2 (g := (mkF m 59 #[.val (.ref a1), .val (.ref a2), .val (.ref a2)] [(.ref a2), (.ref s3)])) rfl rfl (hb hby d16_59)
        refine Run.go st47 ?_
        show Run p e below s 0 0 (Q_rm16 Z a1 a2 cs s0 s1 s2 s3 s4 t0 t1 t2 t3 t4 ca0 ca1 ca2 ca3 ca4 da0 da1 da2 da3 da4 h0 n0) (T47.setTop (mkF m 62 #[.val (.ref a1), .val (.ref a2), .val (.ref a2)] [(.ref t3), (.ref s3)]))
        obtain ⟨o49t, o49k, o49E, o49V, o49C, o49K, o49b, o49l⟩ := id hX_s3
        obtain ⟨o50t, o50k, o50E, o50V, o50C, o50K, o50b, o50l⟩ := id hX_t3
        obtain ⟨cq48, kq48, q48a, q48b, q48c⟩ := isOf hZ e47 E_s3
        obtain ⟨_, _, ⟨T48, L48, k48, n48⟩, -, X48, ⟨Lc48, hQ48, l48, y48, z48⟩, st48⟩ := X47.virtualBack hx (y := (⟨"java/lang/String", "equals", "(Ljava/lang/Object;)Z"⟩ : MethodName)) (z := (⟨"java/lang/String", "equals", "(Ljava/lang/Object;)Z"⟩ : MethodName)) hown (mvT hZ (hw _ (List.mem_of_getElem? (i := 95) rfl))) (mvT hZ (hw _ (List.mem_of_getElem? (i := 96) rfl))) (notFace_of_selects (args := #[]) (mvT hZ (hw _ (List.mem_of_getElem? (i := 98) rfl)))) (mvT hZ (hw _ (List.mem_of_getElem? (i := 98) rfl))) (mvT hZ (hw _ (List.mem_of_getElem? (i := 97) rfl))) (by decide) (Back.mono (StrChars.Road.eqW (W := 0) hZ (fun d hd => hw d (own_wQ d hd)) (kI := 4) (hw _ (List.mem_of_getElem? (i := 14) rfl)) o49E o49V o49C o49K (own_cod o49b) (own_up o49b) (Nat.le_trans o49l (by decide)) o50E o50V o50C o50K (own_cod o50b) (own_up o50b) (Nat.le_trans o50l (by decide)) S_String_COMPACT_STRINGS hcs (by decide) (by decide)) (fun P a hp => hp) (fun P a v B hp hq => own_eqp hq)) q48a q48c (g := (mkF m 62 #[.val (.ref a1), .val (.ref a2), .val (.ref a2)] [(.ref t3), (.ref s3)])) rfl (by rw [hml]; rfl) (Steps.refl _) (argsL := [(.ref t3)]) (rest := []) (lenOf pd_7 rfl) rfl (by show 2 * 0 + _ ≤ _; exact Nat.le_of_eq rfl) (hb hby d16_62) (fun _ _ => ⟨rfl, e47, (by decide : 0 + 0 ≤ _), (by decide : 0 + 0 ≤ _)⟩)
        dsimp only [Pt.U, Pt.locs, Pt.cells, Pt.slots] at X48 l48 y48 z48 st48 hQ48
        subst l48 y48 z48
        obtain ⟨rfl, rfl, e48q⟩ := hQ48
        have N48q := Fr.nil n0
        have N48 := Fr.app Ng42 N48q
        obtain ⟨Lg48, Xg48, Ng48⟩ := Stand_gen X48 N48
        refine Run.tr st48 ?_
        show Run p e below s 0 0 (Q_rm16 Z a1 a2 cs s0 s1 s2 s3 s4 t0 t1 t2 t3 t4 ca0 ca1 ca2 ca3 ca4 da0 da1 da2 da3 da4 h0 n0) (T48.setTop (mkF m 65 #[.val (.ref a1), .val (.ref a2), .val (.ref a2)] [(.int (if ca3 = da3 then (1 : Int32) else 0))]))
        by_cases hc51 : (ca3 = da3)
        · refine Run.go (fun _ k => XS.ifNo Xg48.here hx rfl (hb hby d16_65) rfl ((if0 _ _).trans (feq (by rw [if_pos hc51]; decide)).1) k) ?_
          show Run p e below s 0 0 (Q_rm16 Z a1 a2 cs s0 s1 s2 s3 s4 t0 t1 t2 t3 t4 ca0 ca1 ca2 ca3 ca4 da0 da1 da2 da3 da4 h0 n0) (T48.setTop (mkF m 68 #[.val (.ref a1), .val (.ref a2), .val (.ref a2)] []))
          refine Run.go (fun _ k => XS.aloadN Xg48.here hx rfl (hb hby d16_68) rfl rfl k) ?_
          show Run p e below s 0 0 (Q_rm16 Z a1 a2 cs s0 s1 s2 s3 s4 t0 t1 t2 t3 t4 ca0 ca1 ca2 ca3 ca4 da0 da1 da2 da3 da4 h0 n0) (T48.setTop (mkF m 69 #[.val (.ref a1), .val (.ref a2), .val (.ref a2)] [(.ref a1)]))
          obtain ⟨T52, X52, e52, st52⟩ := getF Xg48 hx hZ hown (host := "") (Or.inl (hw _ (List.mem_of_getElem? (i := 68) rfl))) Via.refl e48q F_term_a1 (g := (mkF m 69 #[.val (.ref a1), .val (.ref a2), .val (.ref a2)] [(.ref a1)])) rfl rfl (hb hby d16_69)
          refine Run.go st52 ?_
          show Run p e below s 0 0 (Q_rm16 Z a1 a2 cs s0 s1 s2 s3 s4 t0 t1 t2 t3 t4 ca0 ca1 ca2 ca3 ca4 da0 da1 da2 da3 da4 h0 n0) (T52.setTop (mkF m 72 #[.val (.ref a1), .val (.ref a2), .val (.ref a2)] [(.ref s4)]))
          refine Run.go (fun _ k => XS.aloadN X52.here hx rfl (hb hby d16_72) rfl rfl k) ?_
          show Run p e below s 0 0 (Q_rm16 Z a1 a2 cs s0 s1 s2 s3 s4 t0 t1 t2 t3 t4 ca0 ca1 ca2 ca3 ca4 da0 da1 da2 da3 da4 h0 n0) (T52.setTop (mkF m 73 #[.val (.ref a1), .val (.ref a2), .val (.ref a2)] [(.ref a2), (.ref s4)]))
          obtain ⟨T53, X53, e53, st53⟩ := getF X52 hx hZ hown (host := "") (Or.inl (hw _ (List.mem_of_getElem? (i := 68) rfl))) Via.refl e52 F_term_a2 (g := (mkF m 73 #[.val (.ref a1), .val (.ref a2), .val (.ref a2)] [(.ref a2), (.ref s4)])) rfl rfl (hb hby d16_73)
          refine Run.go st53 ?_
          show Run p e below s 0 0 (Q_rm16 Z a1 a2 cs s0 s1 s2 s3 s4 t0 t1 t2 t3 t4 ca0 ca1 ca2 ca3 ca4 da0 da1 da2 da3 da4 h0 n0) (T53.setTop (mkF m 76 #[.val (.ref a1), .val (.ref a2), .val (.ref a2)] [(.ref t4), (.ref s4)]))
          obtain ⟨o55t, o55k, o55E, o55V, o55C, o55K, o55b, o55l⟩ := id hX_s4
          obtain ⟨o56t, o56k, o56E, o56V, o56C, o56K, o56b, o56l⟩ := id hX_t4
          obtain ⟨cq54, kq54, q54a, q54b, q54c⟩ := isOf hZ e53 E_s4
          obtain ⟨_, _, ⟨T54, L54, k54, n54⟩, -, X54, ⟨Lc54, hQ54, l54, y54, z54⟩, st54⟩ := X53.virtualBack hx (y := (⟨"java/lang/String", "equals", "(Ljava/lang/Object;)Z"⟩ : MethodName)) (z := (⟨"java/lang/String", "equals", "(Ljava/lang/Object;)Z"⟩ : MethodName)) hown (mvT hZ (hw _ (List.mem_of_getElem? (i := 95) rfl))) (mvT hZ (hw _ (List.mem_of_getElem? (i := 96) rfl))) (notFace_of_selects (args := #[]) (mvT hZ (hw _ (List.mem_of_getElem? (i := 98) rfl)))) (mvT hZ (hw _ (List.mem_of_getElem? (i := 98) rfl))) (mvT hZ (hw _ (List.mem_of_getElem? (i := 97) rfl))) (by decide) (Back.mono (StrChars.Road.eqW (W := 0) hZ (fun d hd => hw d (own_wQ d hd)) (kI := 4) (hw _ (List.mem_of_getElem? (i := 14) rfl)) o55E o55V o55C o55K (own_cod o55b) (own_up o55b) (Nat.le_trans o55l (by decide)) o56E o56V o56C o56K (own_cod o56b) (own_up o56b) (Nat.le_trans o56l (by decide)) S_String_COMPACT_STRINGS hcs (by decide) (by decide)) (fun P a hp => hp) (fun P a v B hp hq => own_eqp hq)) q54a q54c (g := (mkF m 76 #[.val (.ref a1), .val (.ref a2), .val (.ref a2)] [(.ref t4), (.ref s4)])) rfl (by rw [hml]; rfl) (Steps.refl _) (argsL := [(.ref t4)]) (rest := []) (lenOf pd_7 rfl) rfl (by show 2 * 0 + _ ≤ _; exact Nat.le_of_eq rfl) (hb hby d16_76) (fun _ _ => ⟨rfl, e53, (by decide : 0 + 0 ≤ _), (by decide : 0 + 0 ≤ _)⟩)
          dsimp only [Pt.U, Pt.locs, Pt.cells, Pt.slots] at X54 l54 y54 z54 st54 hQ54
          subst l54 y54 z54
          obtain ⟨rfl, rfl, e54q⟩ := hQ54
          have N54q := Fr.nil n0
          have N54 := Fr.app Ng48 N54q
          obtain ⟨Lg54, Xg54, Ng54⟩ := Stand_gen X54 N54
          refine Run.tr st54 ?_
          show Run p e below s 0 0 (Q_rm16 Z a1 a2 cs s0 s1 s2 s3 s4 t0 t1 t2 t3 t4 ca0 ca1 ca2 ca3 ca4 da0 da1 da2 da3 da4 h0 n0) (T54.setTop (mkF m 79 #[.val (.ref a1), .val (.ref a2), .val (.ref a2)] [(.int (if ca4 = da4 then (1 : Int32) else 0))]))
          by_cases hc57 : (ca4 = da4)
          · refine Run.go (fun _ k => XS.ifNo Xg54.here hx rfl (hb hby d16_79) rfl ((if0 _ _).trans (feq (by rw [if_pos hc57]; decide)).1) k) ?_
            show Run p e below s 0 0 (Q_rm16 Z a1 a2 cs s0 s1 s2 s3 s4 t0 t1 t2 t3 t4 ca0 ca1 ca2 ca3 ca4 da0 da1 da2 da3 da4 h0 n0) (T54.setTop (mkF m 82 #[.val (.ref a1), .val (.ref a2), .val (.ref a2)] []))
            refine Run.go (fun _ k => XS.iconst Xg54.here hx rfl (hb hby d16_82) k) ?_
            show Run p e below s 0 0 (Q_rm16 Z a1 a2 cs s0 s1 s2 s3 s4 t0 t1 t2 t3 t4 ca0 ca1 ca2 ca3 ca4 da0 da1 da2 da3 da4 h0 n0) (T54.setTop (mkF m 83 #[.val (.ref a1), .val (.ref a2), .val (.ref a2)] [(.int (1 : Int32))]))
            refine Run.go (fun _ k => XS.goto Xg54.here hx rfl (pc0 := 83) (pc' := 87) rfl (hb hby d16_83) (by decide) (by decide) k) ?_
            show Run p e below s 0 0 (Q_rm16 Z a1 a2 cs s0 s1 s2 s3 s4 t0 t1 t2 t3 t4 ca0 ca1 ca2 ca3 ca4 da0 da1 da2 da3 da4 h0 n0) (T54.setTop (mkF m 87 #[.val (.ref a1), .val (.ref a2), .val (.ref a2)] [(.int (1 : Int32))]))
            exact J30 _ (if_pos ⟨hc33, ⟨hc39, ⟨hc45, ⟨hc51, hc57⟩⟩⟩⟩).symm _ _ Xg54 e54q Ng54
          · refine Run.go (fun _ k => XS.ifYes Xg54.here hx rfl (pc0 := 79) (pc' := 86) rfl (hb hby d16_79) rfl ((if0 _ _).trans (teq ((Eq.refl _).trans (if_neg hc57))).1) (by decide) (by decide) k) ?_
            show Run p e below s 0 0 (Q_rm16 Z a1 a2 cs s0 s1 s2 s3 s4 t0 t1 t2 t3 t4 ca0 ca1 ca2 ca3 ca4 da0 da1 da2 da3 da4 h0 n0) (T54.setTop (mkF m 86 #[.val (.ref a1), .val (.ref a2), .val (.ref a2)] []))
            refine Run.go (fun _ k => XS.iconst Xg54.here hx rfl (hb hby d16_86) k) ?_
            show Run p e below s 0 0 (Q_rm16 Z a1 a2 cs s0 s1 s2 s3 s4 t0 t1 t2 t3 t4 ca0 ca1 ca2 ca3 ca4 da0 da1 da2 da3 da4 h0 n0) (T54.setTop (mkF m 87 #[.val (.ref a1), .val (.ref a2), .val (.ref a2)] [(.int (0 : Int32))]))
            exact J30 _ (if_neg (fun q => (fun q => (fun q => (fun q => hc57 q.2) q.2) q.2) q.2)).symm _ _ Xg54 e54q Ng54
        · refine Run.go (fun _ k => XS.ifYes Xg48.here hx rfl (pc0 := 65) (pc' := 86) rfl (hb hby d16_65) rfl ((if0 _ _).trans (teq ((Eq.refl _).trans (if_neg hc51))).1) (by decide) (by decide) k) ?_
          show Run p e below s 0 0 (Q_rm16 Z a1 a2 cs s0 s1 s2 s3 s4 t0 t1 t2 t3 t4 ca0 ca1 ca2 ca3 ca4 da0 da1 da2 da3 da4 h0 n0) (T48.setTop (mkF m 86 #[.val (.ref a1), .val (.ref a2), .val (.ref a2)] []))
          refine Run.go (fun _ k => XS.iconst Xg48.here hx rfl (hb hby d16_86) k) ?_
          show Run p e below s 0 0 (Q_rm16 Z a1 a2 cs s0 s1 s2 s3 s4 t0 t1 t2 t3 t4 ca0 ca1 ca2 ca3 ca4 da0 da1 da2 da3 da4 h0 n0) (T48.setTop (mkF m 87 #[.val (.ref a1), .val (.ref a2), .val (.ref a2)] [(.int (0 : Int32))]))
          exact J30 _ (if_neg (fun q => (fun q => (fun q => (fun q => hc51 q.1) q.2) q.2) q.2)).symm _ _ Xg48 e48q Ng48
      · refine Run.go (fun _ k => XS.ifYes Xg42.here hx rfl (pc0 := 51) (pc' := 86) rfl (hb hby d16_51) rfl ((if0 _ _).trans (teq ((Eq.refl _).trans (if_neg hc45))).1) (by decide) (by decide) k) ?_
        show Run p e below s 0 0 (Q_rm16 Z a1 a2 cs s0 s1 s2 s3 s4 t0 t1 t2 t3 t4 ca0 ca1 ca2 ca3 ca4 da0 da1 da2 da3 da4 h0 n0) (T42.setTop (mkF m 86 #[.val (.ref a1), .val (.ref a2), .val (.ref a2)] []))
        refine Run.go (fun _ k => XS.iconst Xg42.here hx rfl (hb hby d16_86) k) ?_
        show Run p e below s 0 0 (Q_rm16 Z a1 a2 cs s0 s1 s2 s3 s4 t0 t1 t2 t3 t4 ca0 ca1 ca2 ca3 ca4 da0 da1 da2 da3 da4 h0 n0) (T42.setTop (mkF m 87 #[.val (.ref a1), .val (.ref a2), .val (.ref a2)] [(.int (0 : Int32))]))
        exact J30 _ (if_neg (fun q => (fun q => (fun q => hc45 q.1) q.2) q.2)).symm _ _ Xg42 e42q Ng42
    · refine Run.go (fun _ k => XS.ifYes Xg36.here hx rfl (pc0 := 37) (pc' := 86) rfl (hb hby d16_37) rfl ((if0 _ _).trans (teq ((Eq.refl _).trans (if_neg hc39))).1) (by decide) (by decide) k) ?_
      show Run p e below s 0 0 (Q_rm16 Z a1 a2 cs s0 s1 s2 s3 s4 t0 t1 t2 t3 t4 ca0 ca1 ca2 ca3 ca4 da0 da1 da2 da3 da4 h0 n0) (T36.setTop (mkF m 86 #[.val (.ref a1), .val (.ref a2), .val (.ref a2)] []))
      refine Run.go (fun _ k => XS.iconst Xg36.here hx rfl (hb hby d16_86) k) ?_
      show Run p e below s 0 0 (Q_rm16 Z a1 a2 cs s0 s1 s2 s3 s4 t0 t1 t2 t3 t4 ca0 ca1 ca2 ca3 ca4 da0 da1 da2 da3 da4 h0 n0) (T36.setTop (mkF m 87 #[.val (.ref a1), .val (.ref a2), .val (.ref a2)] [(.int (0 : Int32))]))
      exact J30 _ (if_neg (fun q => (fun q => hc39 q.1) q.2)).symm _ _ Xg36 e36q Ng36
  · refine Run.go (fun _ k => XS.ifYes Xg7.here hx rfl (pc0 := 23) (pc' := 86) rfl (hb hby d16_23) rfl ((if0 _ _).trans (teq ((Eq.refl _).trans (if_neg hc33))).1) (by decide) (by decide) k) ?_
    show Run p e below s 0 0 (Q_rm16 Z a1 a2 cs s0 s1 s2 s3 s4 t0 t1 t2 t3 t4 ca0 ca1 ca2 ca3 ca4 da0 da1 da2 da3 da4 h0 n0) (T7.setTop (mkF m 86 #[.val (.ref a1), .val (.ref a2), .val (.ref a2)] []))
    refine Run.go (fun _ k => XS.iconst Xg7.here hx rfl (hb hby d16_86) k) ?_
    show Run p e below s 0 0 (Q_rm16 Z a1 a2 cs s0 s1 s2 s3 s4 t0 t1 t2 t3 t4 ca0 ca1 ca2 ca3 ca4 da0 da1 da2 da3 da4 h0 n0) (T7.setTop (mkF m 87 #[.val (.ref a1), .val (.ref a2), .val (.ref a2)] [(.int (0 : Int32))]))
    exact J30 _ (if_neg (fun q => hc33 q.1)).symm _ _ Xg7 e7q Ng7
def Q_rm16n (Z : State) (a1 : Addr) (h0 : Heap) (n0 : Nat) (v : Option Value) (h : Heap) (L : List Loc) : Prop := v = some (.int (0 : Int32)) ∧ Fr n0 L ∧ h = h0
theorem ef_rm16n (m : MethodId) (x0 : Addr) : entryFrame m #[(.ref x0), .null] 3 = mkF m 0 #[.val (.ref x0), .val .null, .unset] [] := by first | (simp [entryFrame, mkF, argsToLocals, Value.category]; done) | rfl
set_option maxRecDepth 65536 in
set_option maxHeartbeats 40000000 in
theorem rm16n (l : Launch) (Z : State) (a0 : Array Value) (hw : ∀ d ∈ tables_1, d.before a0 Z = true) (ws : List Jvm.Cond) (a1 : Addr) (h0 : Heap) (n0 : Nat) (Z0 : n0 ≤ h0.size)  :
    MetFree l (⟨"com/example/subjectory/subjectory/heading/ClassLink", "equals", "(Ljava/lang/Object;)Z"⟩ : MethodName) (head1 (Jvm.Cond.code (⟨"com/example/subjectory/subjectory/heading/ClassLink", "equals", "(Ljava/lang/Object;)Z"⟩ : MethodName) prog_4_method_8_code 3 (some .boolean) :: ws) ({ frames := 0, cells := 0, slots := 0, locals := 0 } : Room)) (fun a U => a = #[(.ref a1), .null] ∧ Z.Warmed39 U.vm ∧ U.heap = h0) (fun _ _ _ _ _ => True) (fun _ U o U' => ∃ v L, o = .returned v ∧ Q_rm16n Z a1 h0 n0 v U'.heap L ∧ FrameEnd U o U' L ({ frames := 0, cells := 0, slots := 0, locals := 0 } : Room).cells ({ frames := 0, cells := 0, slots := 0, locals := 0 } : Room).slots) := by
  refine MetFree.of_bodySF (plainFor_of_name pn_4) hisR ?_
  intro p e s m args below meth c s₁ Bd hml0 hP hK
  obtain ⟨rfl, hZ, hh⟩ := hP
  have hx := Bd.exec
  have hby := Bd.bytes
  have hml : c.maxLocals = 3 := hml0
  have hown : s.vm.findClass "com/example/subjectory/subjectory/heading/ClassLink" = some m.cls := findClass_of_methodNamed Bd.named
  have hnm := (name_of_methodNamed Bd.named Bd.method).1
  have X0 : Stand p l e ({ frames := 0, cells := 0, slots := 0, locals := 0 } : Room) s m #[(.ref a1), .null] below meth c s₁ [] 0 0 := Stand.of_body Bd
  have e0 : s₁.heap = h0 := by rw [← hh, Bd.state]; rfl
  have N0 := Fr.nil n0
  show Run p e below s 0 0 (Q_rm16n Z a1 h0 n0) (s₁.setTop (entryFrame m #[(.ref a1), .null] 3))
  refine Run.go (fun _ k => castTop (ef_rm16n m a1) k) ?_
  show Run p e below s 0 0 (Q_rm16n Z a1 h0 n0) (s₁.setTop (mkF m 0 #[.val (.ref a1), .val .null, .unset] []))
  refine Run.go (fun _ k => XS.aloadN X0.here hx rfl (hb hby d16_0) rfl rfl k) ?_
  show Run p e below s 0 0 (Q_rm16n Z a1 h0 n0) (s₁.setTop (mkF m 1 #[.val (.ref a1), .val .null, .unset] [.null]))
  refine Run.go (fun _ k => X0.instanceofNull hx (g := (mkF m 1 #[.val (.ref a1), .val .null, .unset] [.null])) rfl rfl (hb hby d16_1) _ k) ?_
  show Run p e below s 0 0 (Q_rm16n Z a1 h0 n0) (s₁.setTop (mkF m 4 #[.val (.ref a1), .val .null, .unset] [(.int (0 : Int32))]))
  refine Run.go (fun _ k => XS.ifYes X0.here hx rfl (pc0 := 4) (pc' := 86) rfl (hb hby d16_4) rfl ((if0 _ _).trans (teq (rfl : (0 : Int32) = (0 : Int32))).1) (by decide) (by decide) k) ?_
  show Run p e below s 0 0 (Q_rm16n Z a1 h0 n0) (s₁.setTop (mkF m 86 #[.val (.ref a1), .val .null, .unset] []))
  refine Run.go (fun _ k => XS.iconst X0.here hx rfl (hb hby d16_86) k) ?_
  show Run p e below s 0 0 (Q_rm16n Z a1 h0 n0) (s₁.setTop (mkF m 87 #[.val (.ref a1), .val .null, .unset] [(.int (0 : Int32))]))
  refine Run.retN (y := (0 : Int32)) X0 hx (t := .boolean) Bd.returns (by simp) rfl Bd.notSynchronized (hb hby d16_87) (by decide) (by decide) ?_
  show Q_rm16n Z a1 h0 n0 _ s₁.heap _
  exact ⟨rfl, N0, e0⟩
def F_rm16s (ca0 : List Int32) (ca1 : List Int32) (ca2 : List Int32) (ca3 : List Int32) (ca4 : List Int32) : Int32 := let w30 : Int32 := (if ((ca0 = ca0) ∧ ((ca1 = ca1) ∧ ((ca2 = ca2) ∧ ((ca3 = ca3) ∧ (ca4 = ca4))))) then (1 : Int32) else 0); w30
def Q_rm16s (Z : State) (a1 : Addr) (cs : Int32) (s0 : Addr) (s1 : Addr) (s2 : Addr) (s3 : Addr) (s4 : Addr) (ca0 : List Int32) (ca1 : List Int32) (ca2 : List Int32) (ca3 : List Int32) (ca4 : List Int32) (h0 : Heap) (n0 : Nat) (v : Option Value) (h : Heap) (L : List Loc) : Prop := v = some (.int (F_rm16s ca0 ca1 ca2 ca3 ca4)) ∧ Fr n0 L ∧ h = h0
theorem ef_rm16s (m : MethodId) (x0 : Addr) (x1 : Addr) : entryFrame m #[(.ref x1), (.ref x1)] 3 = mkF m 0 #[.val (.ref x1), .val (.ref x1), .unset] [] := by first | (simp [entryFrame, mkF, argsToLocals, Value.category]; done) | rfl
set_option maxRecDepth 65536 in
set_option maxHeartbeats 40000000 in
theorem rm16s (l : Launch) (Z : State) (a0 : Array Value) (hw : ∀ d ∈ tables_1, d.before a0 Z = true) (ws : List Jvm.Cond) (a1 : Addr) (cs : Int32) (s0 : Addr) (s1 : Addr) (s2 : Addr) (s3 : Addr) (s4 : Addr) (ca0 : List Int32) (ca1 : List Int32) (ca2 : List Int32) (ca3 : List Int32) (ca4 : List Int32) (h0 : Heap) (n0 : Nat) (Z0 : n0 ≤ h0.size) (S_String_COMPACT_STRINGS : Sta Z h0 "java/lang/String" "COMPACT_STRINGS" "Z" (.int cs)) (hcs : ¬ (cs = (0 : Int32))) (E_a1 : Exa Z h0 a1 "com/example/subjectory/subjectory/heading/ClassLink") (F_scheme_a1 : Fld Z h0 a1 "com/example/subjectory/subjectory/heading/ClassLink" "scheme" "Ljava/lang/String;" (.ref s0)) (F_number_a1 : Fld Z h0 a1 "com/example/subjectory/subjectory/heading/ClassLink" "number" "Ljava/lang/String;" (.ref s1)) (F_caption_a1 : Fld Z h0 a1 "com/example/subjectory/subjectory/heading/ClassLink" "caption" "Ljava/lang/String;" (.ref s2)) (F_tag_a1 : Fld Z h0 a1 "com/example/subjectory/subjectory/heading/ClassLink" "tag" "Ljava/lang/String;" (.ref s3)) (F_term_a1 : Fld Z h0 a1 "com/example/subjectory/subjectory/heading/ClassLink" "term" "Ljava/lang/String;" (.ref s4)) (E_s0 : Exa Z h0 s0 "java/lang/String") (hX_s0 : SStr Z h0 s0 ca0) (E_s1 : Exa Z h0 s1 "java/lang/String") (hX_s1 : SStr Z h0 s1 ca1) (E_s2 : Exa Z h0 s2 "java/lang/String") (hX_s2 : SStr Z h0 s2 ca2) (E_s3 : Exa Z h0 s3 "java/lang/String") (hX_s3 : SStr Z h0 s3 ca3) (E_s4 : Exa Z h0 s4 "java/lang/String") (hX_s4 : SStr Z h0 s4 ca4) :
    MetFree l (⟨"com/example/subjectory/subjectory/heading/ClassLink", "equals", "(Ljava/lang/Object;)Z"⟩ : MethodName) (head1 (Jvm.Cond.code (⟨"com/example/subjectory/subjectory/heading/ClassLink", "equals", "(Ljava/lang/Object;)Z"⟩ : MethodName) prog_4_method_8_code 3 (some .boolean) :: ws) ({ frames := 2, cells := 0, slots := 0, locals := 28 } : Room)) (fun a U => a = #[(.ref a1), (.ref a1)] ∧ Z.Warmed39 U.vm ∧ U.heap = h0) (fun _ _ _ _ _ => True) (fun _ U o U' => ∃ v L, o = .returned v ∧ Q_rm16s Z a1 cs s0 s1 s2 s3 s4 ca0 ca1 ca2 ca3 ca4 h0 n0 v U'.heap L ∧ FrameEnd U o U' L ({ frames := 2, cells := 0, slots := 0, locals := 28 } : Room).cells ({ frames := 2, cells := 0, slots := 0, locals := 28 } : Room).slots) := by
  refine MetFree.of_bodySF (plainFor_of_name pn_4) hisR ?_
  intro p e s m args below meth c s₁ Bd hml0 hP hK
  obtain ⟨rfl, hZ, hh⟩ := hP
  have hx := Bd.exec
  have hby := Bd.bytes
  have hml : c.maxLocals = 3 := hml0
  have hown : s.vm.findClass "com/example/subjectory/subjectory/heading/ClassLink" = some m.cls := findClass_of_methodNamed Bd.named
  have hnm := (name_of_methodNamed Bd.named Bd.method).1
  have X0 : Stand p l e ({ frames := 2, cells := 0, slots := 0, locals := 28 } : Room) s m #[(.ref a1), (.ref a1)] below meth c s₁ [] 0 0 := Stand.of_body Bd
  have e0 : s₁.heap = h0 := by rw [← hh, Bd.state]; rfl
  have N0 := Fr.nil n0
  show Run p e below s 0 0 (Q_rm16s Z a1 cs s0 s1 s2 s3 s4 ca0 ca1 ca2 ca3 ca4 h0 n0) (s₁.setTop (entryFrame m #[(.ref a1), (.ref a1)] 3))
  refine Run.go (fun _ k => castTop (ef_rm16s m a1 a1) k) ?_
  show Run p e below s 0 0 (Q_rm16s Z a1 cs s0 s1 s2 s3 s4 ca0 ca1 ca2 ca3 ca4 h0 n0) (s₁.setTop (mkF m 0 #[.val (.ref a1), .val (.ref a1), .unset] []))
  refine Run.go (fun _ k => XS.aloadN X0.here hx rfl (hb hby d16_0) rfl rfl k) ?_
  show Run p e below s 0 0 (Q_rm16s Z a1 cs s0 s1 s2 s3 s4 ca0 ca1 ca2 ca3 ca4 h0 n0) (s₁.setTop (mkF m 1 #[.val (.ref a1), .val (.ref a1), .unset] [(.ref a1)]))
  obtain ⟨T2, X2, e2, st2⟩ := instY X0 hx hZ hown (hw _ (List.mem_of_getElem? (i := 93) rfl)) e0 (Ins.self E_a1) (g := (mkF m 1 #[.val (.ref a1), .val (.ref a1), .unset] [(.ref a1)])) rfl rfl (hb hby d16_1)
  refine Run.go st2 ?_
  show Run p e below s 0 0 (Q_rm16s Z a1 cs s0 s1 s2 s3 s4 ca0 ca1 ca2 ca3 ca4 h0 n0) (T2.setTop (mkF m 4 #[.val (.ref a1), .val (.ref a1), .unset] [(.int (1 : Int32))]))
  refine Run.go (fun _ k => XS.ifNo X2.here hx rfl (hb hby d16_4) rfl ((if0 _ _).trans (feq (by decide)).1) k) ?_
  show Run p e below s 0 0 (Q_rm16s Z a1 cs s0 s1 s2 s3 s4 ca0 ca1 ca2 ca3 ca4 h0 n0) (T2.setTop (mkF m 7 #[.val (.ref a1), .val (.ref a1), .unset] []))
  refine Run.go (fun _ k => XS.aloadN X2.here hx rfl (hb hby d16_7) rfl rfl k) ?_
  show Run p e below s 0 0 (Q_rm16s Z a1 cs s0 s1 s2 s3 s4 ca0 ca1 ca2 ca3 ca4 h0 n0) (T2.setTop (mkF m 8 #[.val (.ref a1), .val (.ref a1), .unset] [(.ref a1)]))
  obtain ⟨T3, X3, e3, st3⟩ := castY X2 hx hZ hown (hw _ (List.mem_of_getElem? (i := 93) rfl)) e2 (Ins.self E_a1) (g := (mkF m 8 #[.val (.ref a1), .val (.ref a1), .unset] [(.ref a1)])) rfl rfl (hb hby d16_8)
  refine Run.go st3 ?_
  show Run p e below s 0 0 (Q_rm16s Z a1 cs s0 s1 s2 s3 s4 ca0 ca1 ca2 ca3 ca4 h0 n0) (T3.setTop (mkF m 11 #[.val (.ref a1), .val (.ref a1), .unset] [(.ref a1)]))
  refine Run.go (fun _ k => XS.astoreN X3.here hx rfl (hb hby d16_11) rfl rfl (l' := #[.val (.ref a1), .val (.ref a1), .val (.ref a1)]) rfl k) ?_
  show Run p e below s 0 0 (Q_rm16s Z a1 cs s0 s1 s2 s3 s4 ca0 ca1 ca2 ca3 ca4 h0 n0) (T3.setTop (mkF m 12 #[.val (.ref a1), .val (.ref a1), .val (.ref a1)] []))
  refine Run.go (fun _ k => XS.aloadN X3.here hx rfl (hb hby d16_12) rfl rfl k) ?_
  show Run p e below s 0 0 (Q_rm16s Z a1 cs s0 s1 s2 s3 s4 ca0 ca1 ca2 ca3 ca4 h0 n0) (T3.setTop (mkF m 13 #[.val (.ref a1), .val (.ref a1), .val (.ref a1)] [(.ref a1)]))
  obtain ⟨T4, X4, e4, st4⟩ := getF X3 hx hZ hown (host := "") (Or.inl (hw _ (List.mem_of_getElem? (i := 58) rfl))) Via.refl e3 F_scheme_a1 (g := (mkF m 13 #[.val (.ref a1), .val (.ref a1), .val (.ref a1)] [(.ref a1)])) rfl rfl (hb hby d16_13)
  refine Run.go st4 ?_
  show Run p e below s 0 0 (Q_rm16s Z a1 cs s0 s1 s2 s3 s4 ca0 ca1 ca2 ca3 ca4 h0 n0) (T4.setTop (mkF m 16 #[.val (.ref a1), .val (.ref a1), .val (.ref a1)] [(.ref s0)]))
  refine Run.go (fun _ k => XS.aloadN X4.here hx rfl (hb hby d16_16) rfl rfl k) ?_
  show Run p e below s 0 0 (Q_rm16s Z a1 cs s0 s1 s2 s3 s4 ca0 ca1 ca2 ca3 ca4 h0 n0) (T4.setTop (mkF m 17 #[.val (.ref a1), .val (.ref a1), .val (.ref a1)] [(.ref a1), (.ref s0)]))
  obtain ⟨T5, X5, e5, st5⟩ := getF X4 hx hZ hown (host := "") (Or.inl (hw _ (List.mem_of_getElem? (i := 58) rfl))) Via.refl e4 F_scheme_a1 (g := (mkF m 17 #[.val (.ref a1), .val (.ref a1), .val (.ref a1)] [(.ref a1), (.ref s0)])) rfl rfl (hb hby d16_17)
  refine Run.go st5 ?_
  show Run p e below s 0 0 (Q_rm16s Z a1 cs s0 s1 s2 s3 s4 ca0 ca1 ca2 ca3 ca4 h0 n0) (T5.setTop (mkF m 20 #[.val (.ref a1), .val (.ref a1), .val (.ref a1)] [(.ref s0), (.ref s0)]))
  obtain ⟨o7t, o7k, o7E, o7V, o7C, o7K, o7b, o7l⟩ := id hX_s0
  obtain ⟨o8t, o8k, o8E, o8V, o8C, o8K, o8b, o8l⟩ := id hX_s0
  obtain ⟨cq6, kq6, q6a, q6b, q6c⟩ := isOf hZ e5 E_s0
  obtain ⟨_, _, ⟨T6, L6, k6, n6⟩, -, X6, ⟨Lc6, hQ6, l6, y6, z6⟩, st6⟩ := X5.virtualBack hx (y := (⟨"java/lang/String", "equals", "(Ljava/lang/Object;)Z"⟩ : MethodName)) (z := (⟨"java/lang/String", "equals", "(Ljava/lang/Object;)Z"⟩ : MethodName)) hown (mvT hZ (hw _ (List.mem_of_getElem? (i := 95) rfl))) (mvT hZ (hw _ (List.mem_of_getElem? (i := 96) rfl))) (notFace_of_selects (args := #[]) (mvT hZ (hw _ (List.mem_of_getElem? (i := 98) rfl)))) (mvT hZ (hw _ (List.mem_of_getElem? (i := 98) rfl))) (mvT hZ (hw _ (List.mem_of_getElem? (i := 97) rfl))) (by decide) (Back.mono (StrChars.Road.eqW (W := 0) hZ (fun d hd => hw d (own_wQ d hd)) (kI := 4) (hw _ (List.mem_of_getElem? (i := 14) rfl)) o7E o7V o7C o7K (own_cod o7b) (own_up o7b) (Nat.le_trans o7l (by decide)) o8E o8V o8C o8K (own_cod o8b) (own_up o8b) (Nat.le_trans o8l (by decide)) S_String_COMPACT_STRINGS hcs (by decide) (by decide)) (fun P a hp => hp) (fun P a v B hp hq => own_eqp hq)) q6a q6c (g := (mkF m 20 #[.val (.ref a1), .val (.ref a1), .val (.ref a1)] [(.ref s0), (.ref s0)])) rfl (by rw [hml]; rfl) (Steps.refl _) (argsL := [(.ref s0)]) (rest := []) (lenOf pd_7 rfl) rfl (by show 2 * 0 + _ ≤ _; exact Nat.le_of_eq rfl) (hb hby d16_20) (fun _ _ => ⟨rfl, e5, (by decide : 0 + 0 ≤ _), (by decide : 0 + 0 ≤ _)⟩)
  dsimp only [Pt.U, Pt.locs, Pt.cells, Pt.slots] at X6 l6 y6 z6 st6 hQ6
  subst l6 y6 z6
  obtain ⟨rfl, rfl, e6q⟩ := hQ6
  have N6q := Fr.nil n0
  have N6 := Fr.app N0 N6q
  obtain ⟨Lg6, Xg6, Ng6⟩ := Stand_gen X6 N6
  refine Run.tr st6 ?_
  show Run p e below s 0 0 (Q_rm16s Z a1 cs s0 s1 s2 s3 s4 ca0 ca1 ca2 ca3 ca4 h0 n0) (T6.setTop (mkF m 23 #[.val (.ref a1), .val (.ref a1), .val (.ref a1)] [(.int (if ca0 = ca0 then (1 : Int32) else 0))]))
  have J29 : ∀ (w30 : Int32) (hw30 : w30 = (if ((ca0 = ca0) ∧ ((ca1 = ca1) ∧ ((ca2 = ca2) ∧ ((ca3 = ca3) ∧ (ca4 = ca4))))) then (1 : Int32) else 0)) (T31 : State) (L31 : List Loc) (X31 : Stand p l e ({ frames := 2, cells := 0, slots := 0, locals := 28 } : Room) s m #[(.ref a1), (.ref a1)] below meth c T31 L31 0 0) (e31 : T31.heap = h0) (N31 : Fr n0 L31), Run p e below s 0 0 (Q_rm16s Z a1 cs s0 s1 s2 s3 s4 ca0 ca1 ca2 ca3 ca4 h0 n0) (T31.setTop (mkF m 87 #[.val (.ref a1), .val (.ref a1), .val (.ref a1)] [(.int w30)])) := by
    intro w30 hw30 T31 L31 X31 e31 N31
    show Run p e below s 0 0 (Q_rm16s Z a1 cs s0 s1 s2 s3 s4 ca0 ca1 ca2 ca3 ca4 h0 n0) (T31.setTop (mkF m 87 #[.val (.ref a1), .val (.ref a1), .val (.ref a1)] [(.int w30)]))
    refine Run.retN (y := w30) X31 hx (t := .boolean) Bd.returns (by simp) (by rw [hw30]; exact nar_ite _) Bd.notSynchronized (hb hby d16_87) (by decide) (by decide) ?_
    show Q_rm16s Z a1 cs s0 s1 s2 s3 s4 ca0 ca1 ca2 ca3 ca4 h0 n0 _ T31.heap _
    exact ⟨congrArg some (congrArg Value.int (show w30 = (F_rm16s ca0 ca1 ca2 ca3 ca4) from (by subst hw30; unfold F_rm16s; rfl))), N31, e31⟩
  by_cases hc32 : (ca0 = ca0)
  · refine Run.go (fun _ k => XS.ifNo Xg6.here hx rfl (hb hby d16_23) rfl ((if0 _ _).trans (feq (by rw [if_pos hc32]; decide)).1) k) ?_
    show Run p e below s 0 0 (Q_rm16s Z a1 cs s0 s1 s2 s3 s4 ca0 ca1 ca2 ca3 ca4 h0 n0) (T6.setTop (mkF m 26 #[.val (.ref a1), .val (.ref a1), .val (.ref a1)] []))
    refine Run.go (fun _ k => XS.aloadN Xg6.here hx rfl (hb hby d16_26) rfl rfl k) ?_
    show Run p e below s 0 0 (Q_rm16s Z a1 cs s0 s1 s2 s3 s4 ca0 ca1 ca2 ca3 ca4 h0 n0) (T6.setTop (mkF m 27 #[.val (.ref a1), .val (.ref a1), .val (.ref a1)] [(.ref a1)]))
    obtain ⟨T33, X33, e33, st33⟩ := getF Xg6 hx hZ hown (host := "") (Or.inl (hw _ (List.mem_of_getElem? (i := 60) rfl))) Via.refl e6q F_number_a1 (g := (mkF m 27 #[.val (.ref a1), .val (.ref a1), .val (.ref a1)] [(.ref a1)])) rfl rfl (hb hby d16_27)
    refine Run.go st33 ?_
    show Run p e below s 0 0 (Q_rm16s Z a1 cs s0 s1 s2 s3 s4 ca0 ca1 ca2 ca3 ca4 h0 n0) (T33.setTop (mkF m 30 #[.val (.ref a1), .val (.ref a1), .val (.ref a1)] [(.ref s1)]))
    refine Run.go (fun _ k => XS.aloadN X33.here hx rfl (hb hby d16_30) rfl rfl k) ?_
    show Run p e below s 0 0 (Q_rm16s Z a1 cs s0 s1 s2 s3 s4 ca0 ca1 ca2 ca3 ca4 h0 n0) (T33.setTop (mkF m 31 #[.val (.ref a1), .val (.ref a1), .val (.ref a1)] [(.ref a1), (.ref s1)]))
    obtain ⟨T34, X34, e34, st34⟩ := getF X33 hx hZ hown (host := "") (Or.inl (hw _ (List.mem_of_getElem? (i := 60) rfl))) Via.refl e33 F_number_a1 (g := (mkF m 31 #[.val (.ref a1), .val (.ref a1), .val (.ref a1)] [(.ref a1), (.ref s1)])) rfl rfl (hb hby d16_31)
    refine Run.go st34 ?_
    show Run p e below s 0 0 (Q_rm16s Z a1 cs s0 s1 s2 s3 s4 ca0 ca1 ca2 ca3 ca4 h0 n0) (T34.setTop (mkF m 34 #[.val (.ref a1), .val (.ref a1), .val (.ref a1)] [(.ref s1), (.ref s1)]))
    obtain ⟨o36t, o36k, o36E, o36V, o36C, o36K, o36b, o36l⟩ := id hX_s1
    obtain ⟨o37t, o37k, o37E, o37V, o37C, o37K, o37b, o37l⟩ := id hX_s1
    obtain ⟨cq35, kq35, q35a, q35b, q35c⟩ := isOf hZ e34 E_s1
    obtain ⟨_, _, ⟨T35, L35, k35, n35⟩, -, X35, ⟨Lc35, hQ35, l35, y35, z35⟩, st35⟩ := X34.virtualBack hx (y := (⟨"java/lang/String", "equals", "(Ljava/lang/Object;)Z"⟩ : MethodName)) (z := (⟨"java/lang/String", "equals", "(Ljava/lang/Object;)Z"⟩ : MethodName)) hown (mvT hZ (hw _ (List.mem_of_getElem? (i := 95) rfl))) (mvT hZ (hw _ (List.mem_of_getElem? (i := 96) rfl))) (notFace_of_selects (args := #[]) (mvT hZ (hw _ (List.mem_of_getElem? (i := 98) rfl)))) (mvT hZ (hw _ (List.mem_of_getElem? (i := 98) rfl))) (mvT hZ (hw _ (List.mem_of_getElem? (i := 97) rfl))) (by decide) (Back.mono (StrChars.Road.eqW (W := 0) hZ (fun d hd => hw d (own_wQ d hd)) (kI := 4) (hw _ (List.mem_of_getElem? (i := 14) rfl)) o36E o36V o36C o36K (own_cod o36b) (own_up o36b) (Nat.le_trans o36l (by decide)) o37E o37V o37C o37K (own_cod o37b) (own_up o37b) (Nat.le_trans o37l (by decide)) S_String_COMPACT_STRINGS hcs (by decide) (by decide)) (fun P a hp => hp) (fun P a v B hp hq => own_eqp hq)) q35a q35c (g := (mkF m 34 #[.val (.ref a1), .val (.ref a1), .val (.ref a1)] [(.ref s1), (.ref s1)])) rfl (by rw [hml]; rfl) (Steps.refl _) (argsL := [(.ref s1)]) (rest := []) (lenOf pd_7 rfl) rfl (by show 2 * 0 + _ ≤ _; exact Nat.le_of_eq rfl) (hb hby d16_34) (fun _ _ => ⟨rfl, e34, (by decide : 0 + 0 ≤ _), (by decide : 0 + 0 ≤ _)⟩)
    dsimp only [Pt.U, Pt.locs, Pt.cells, Pt.slots] at X35 l35 y35 z35 st35 hQ35
    subst l35 y35 z35
    obtain ⟨rfl, rfl, e35q⟩ := hQ35
    have N35q := Fr.nil n0
    have N35 := Fr.app Ng6 N35q
    obtain ⟨Lg35, Xg35, Ng35⟩ := Stand_gen X35 N35
    refine Run.tr st35 ?_
    show Run p e below s 0 0 (Q_rm16s Z a1 cs s0 s1 s2 s3 s4 ca0 ca1 ca2 ca3 ca4 h0 n0) (T35.setTop (mkF m 37 #[.val (.ref a1), .val (.ref a1), .val (.ref a1)] [(.int (if ca1 = ca1 then (1 : Int32) else 0))]))
    by_cases hc38 : (ca1 = ca1)
    · refine Run.go (fun _ k => XS.ifNo Xg35.here hx rfl (hb hby d16_37) rfl ((if0 _ _).trans (feq (by rw [if_pos hc38]; decide)).1) k) ?_
      show Run p e below s 0 0 (Q_rm16s Z a1 cs s0 s1 s2 s3 s4 ca0 ca1 ca2 ca3 ca4 h0 n0) (T35.setTop (mkF m 40 #[.val (.ref a1), .val (.ref a1), .val (.ref a1)] []))
      refine Run.go (fun _ k => XS.aloadN Xg35.here hx rfl (hb hby d16_40) rfl rfl k) ?_
      show Run p e below s 0 0 (Q_rm16s Z a1 cs s0 s1 s2 s3 s4 ca0 ca1 ca2 ca3 ca4 h0 n0) (T35.setTop (mkF m 41 #[.val (.ref a1), .val (.ref a1), .val (.ref a1)] [(.ref a1)]))
      obtain ⟨T39, X39, e39, st39⟩ := getF Xg35 hx hZ hown (host := "") (Or.inl (hw _ (List.mem_of_getElem? (i := 63) rfl))) Via.refl e35q F_caption_a1 (g := (mkF m 41 #[.val (.ref a1), .val (.ref a1), .val (.ref a1)] [(.ref a1)])) rfl rfl (hb hby d16_41)
      refine Run.go st39 ?_
      show Run p e below s 0 0 (Q_rm16s Z a1 cs s0 s1 s2 s3 s4 ca0 ca1 ca2 ca3 ca4 h0 n0) (T39.setTop (mkF m 44 #[.val (.ref a1), .val (.ref a1), .val (.ref a1)] [(.ref s2)]))
      refine Run.go (fun _ k => XS.aloadN X39.here hx rfl (hb hby d16_44) rfl rfl k) ?_
      show Run p e below s 0 0 (Q_rm16s Z a1 cs s0 s1 s2 s3 s4 ca0 ca1 ca2 ca3 ca4 h0 n0) (T39.setTop (mkF m 45 #[.val (.ref a1), .val (.ref a1), .val (.ref a1)] [(.ref a1), (.ref s2)]))
      obtain ⟨T40, X40, e40, st40⟩ := getF X39 hx hZ hown (host := "") (Or.inl (hw _ (List.mem_of_getElem? (i := 63) rfl))) Via.refl e39 F_caption_a1 (g := (mkF m 45 #[.val (.ref a1), .val (.ref a1), .val (.ref a1)] [(.ref a1), (.ref s2)])) rfl rfl (hb hby d16_45)
      refine Run.go st40 ?_
      show Run p e below s 0 0 (Q_rm16s Z a1 cs s0 s1 s2 s3 s4 ca0 ca1 ca2 ca3 ca4 h0 n0) (T40.setTop (mkF m 48 #[.val (.ref a1), .val (.ref a1), .val (.ref a1)] [(.ref s2), (.ref s2)]))
      obtain ⟨o42t, o42k, o42E, o42V, o42C, o42K, o42b, o42l⟩ := id hX_s2
      obtain ⟨o43t, o43k, o43E, o43V, o43C, o43K, o43b, o43l⟩ := id hX_s2
      obtain ⟨cq41, kq41, q41a, q41b, q41c⟩ := isOf hZ e40 E_s2
      obtain ⟨_, _, ⟨T41, L41, k41, n41⟩, -, X41, ⟨Lc41, hQ41, l41, y41, z41⟩, st41⟩ := X40.virtualBack hx (y := (⟨"java/lang/String", "equals", "(Ljava/lang/Object;)Z"⟩ : MethodName)) (z := (⟨"java/lang/String", "equals", "(Ljava/lang/Object;)Z"⟩ : MethodName)) hown (mvT hZ (hw _ (List.mem_of_getElem? (i := 95) rfl))) (mvT hZ (hw _ (List.mem_of_getElem? (i := 96) rfl))) (notFace_of_selects (args := #[]) (mvT hZ (hw _ (List.mem_of_getElem? (i := 98) rfl)))) (mvT hZ (hw _ (List.mem_of_getElem? (i := 98) rfl))) (mvT hZ (hw _ (List.mem_of_getElem? (i := 97) rfl))) (by decide) (Back.mono (StrChars.Road.eqW (W := 0) hZ (fun d hd => hw d (own_wQ d hd)) (kI := 4) (hw _ (List.mem_of_getElem? (i := 14) rfl)) o42E o42V o42C o42K (own_cod o42b) (own_up o42b) (Nat.le_trans o42l (by decide)) o43E o43V o43C o43K (own_cod o43b) (own_up o43b) (Nat.le_trans o43l (by decide)) S_String_COMPACT_STRINGS hcs (by decide) (by decide)) (fun P a hp => hp) (fun P a v B hp hq => own_eqp hq)) q41a q41c (g := (mkF m 48 #[.val (.ref a1), .val (.ref a1), .val (.ref a1)] [(.ref s2), (.ref s2)])) rfl (by rw [hml]; rfl) (Steps.refl _) (argsL := [(.ref s2)]) (rest := []) (lenOf pd_7 rfl) rfl (by show 2 * 0 + _ ≤ _; exact Nat.le_of_eq rfl) (hb hby d16_48) (fun _ _ => ⟨rfl, e40, (by decide : 0 + 0 ≤ _), (by decide : 0 + 0 ≤ _)⟩)
      dsimp only [Pt.U, Pt.locs, Pt.cells, Pt.slots] at X41 l41 y41 z41 st41 hQ41
      subst l41 y41 z41
      obtain ⟨rfl, rfl, e41q⟩ := hQ41
      have N41q := Fr.nil n0
      have N41 := Fr.app Ng35 N41q
      obtain ⟨Lg41, Xg41, Ng41⟩ := Stand_gen X41 N41
      refine Run.tr st41 ?_
      show Run p e below s 0 0 (Q_rm16s Z a1 cs s0 s1 s2 s3 s4 ca0 ca1 ca2 ca3 ca4 h0 n0) (T41.setTop (mkF m 51 #[.val (.ref a1), .val (.ref a1), .val (.ref a1)] [(.int (if ca2 = ca2 then (1 : Int32) else 0))]))
      by_cases hc44 : (ca2 = ca2)
      · refine Run.go (fun _ k => XS.ifNo Xg41.here hx rfl (hb hby d16_51) rfl ((if0 _ _).trans (feq (by rw [if_pos hc44]; decide)).1) k) ?_
        show Run p e below s 0 0 (Q_rm16s Z a1 cs s0 s1 s2 s3 s4 ca0 ca1 ca2 ca3 ca4 h0 n0) (T41.setTop (mkF m 54 #[.val (.ref a1), .val (.ref a1), .val (.ref a1)] []))
        refine Run.go (fun _ k => XS.aloadN Xg41.here hx rfl (hb hby d16_54) rfl rfl k) ?_
        show Run p e below s 0 0 (Q_rm16s Z a1 cs s0 s1 s2 s3 s4 ca0 ca1 ca2 ca3 ca4 h0 n0) (T41.setTop (mkF m 55 #[.val (.ref a1), .val (.ref a1), .val (.ref a1)] [(.ref a1)]))
        obtain ⟨T45, X45, e45, st45⟩ := getF Xg41 hx hZ hown (host := "") (Or.inl (hw _ (List.mem_of_getElem? (i := 66) rfl))) Via.refl e41q F_tag_a1 (g := (mkF m 55 #[.val (.ref a1), .val (.ref a1), .val (.ref a1)] [(.ref a1)])) rfl rfl (hb hby d16_55)
        refine Run.go st45 ?_
        show Run p e below s 0 0 (Q_rm16s Z a1 cs s0 s1 s2 s3 s4 ca0 ca1 ca2 ca3 ca4 h0 n0) (T45.setTop (mkF m 58 #[.val (.ref a1), .val (.ref a1), .val (.ref a1)] [(.ref s3)]))
        refine Run.go (fun _ k => XS.aloadN X45.here hx rfl (hb hby d16_58) rfl rfl k) ?_
        show Run p e below s 0 0 (Q_rm16s Z a1 cs s0 s1 s2 s3 s4 ca0 ca1 ca2 ca3 ca4 h0 n0) (T45.setTop (mkF m 59 #[.val (.ref a1), .val (.ref a1), .val (.ref a1)] [(.ref a1), (.ref s3)]))
        obtain ⟨T46, X46, e46, st46⟩ := getF X45 hx hZ hown (host := "") (Or.inl (hw _ (List.mem_of_getElem? (i := 66) rfl))) Via.refl e45 F_tag_a1 (g := (mkF m 59 #[.val (.ref a1), .val (.ref a1), .val (.ref a1)] [(.ref a1), (.ref s3)])) rfl rfl (hb hby d16_59)
        refine Run.go st46 ?_
        show Run p e below s 0 0 (Q_rm16s Z a1 cs s0 s1 s2 s3 s4 ca0 ca1 ca2 ca3 ca4 h0 n0) (T46.setTop (mkF m 62 #[.val (.ref a1), .val (.ref a1), .val (.ref a1)] [(.ref s3), (.ref s3)]))
        obtain ⟨o48t, o48k, o48E, o48V, o48C, o48K, o48b, o48l⟩ := id hX_s3
        obtain ⟨o49t, o49k, o49E, o49V, o49C, o49K, o49b, o49l⟩ := id hX_s3
        obtain ⟨cq47, kq47, q47a, q47b, q47c⟩ := isOf hZ e46 E_s3
        obtain ⟨_, _, ⟨T47, L47, k47, n47⟩, -, X47, ⟨Lc47, hQ47, l47, y47, z47⟩, st47⟩ := X46.virtualBack hx (y := (⟨"java/lang/String", "equals", "(Ljava/lang/Object;)Z"⟩ : MethodName)) (z := (⟨"java/lang/String", "equals", "(Ljava/lang/Object;)Z"⟩ : MethodName)) hown (mvT hZ (hw _ (List.mem_of_getElem? (i := 95) rfl))) (mvT hZ (hw _ (List.mem_of_getElem? (i := 96) rfl))) (notFace_of_selects (args := #[]) (mvT hZ (hw _ (List.mem_of_getElem? (i := 98) rfl)))) (mvT hZ (hw _ (List.mem_of_getElem? (i := 98) rfl))) (mvT hZ (hw _ (List.mem_of_getElem? (i := 97) rfl))) (by decide) (Back.mono (StrChars.Road.eqW (W := 0) hZ (fun d hd => hw d (own_wQ d hd)) (kI := 4) (hw _ (List.mem_of_getElem? (i := 14) rfl)) o48E o48V o48C o48K (own_cod o48b) (own_up o48b) (Nat.le_trans o48l (by decide)) o49E o49V o49C o49K (own_cod o49b) (own_up o49b) (Nat.le_trans o49l (by decide)) S_String_COMPACT_STRINGS hcs (by decide) (by decide)) (fun P a hp => hp) (fun P a v B hp hq => own_eqp hq)) q47a q47c (g := (mkF m 62 #[.val (.ref a1), .val (.ref a1), .val (.ref a1)] [(.ref s3), (.ref s3)])) rfl (by rw [hml]; rfl) (Steps.refl _) (argsL := [(.ref s3)]) (rest := []) (lenOf pd_7 rfl) rfl (by show 2 * 0 + _ ≤ _; exact Nat.le_of_eq rfl) (hb hby d16_62) (fun _ _ => ⟨rfl, e46, (by decide : 0 + 0 ≤ _), (by decide : 0 + 0 ≤ _)⟩)
        dsimp only [Pt.U, Pt.locs, Pt.cells, Pt.slots] at X47 l47 y47 z47 st47 hQ47
        subst l47 y47 z47
        obtain ⟨rfl, rfl, e47q⟩ := hQ47
        have N47q := Fr.nil n0
        have N47 := Fr.app Ng41 N47q
        obtain ⟨Lg47, Xg47, Ng47⟩ := Stand_gen X47 N47
        refine Run.tr st47 ?_
        show Run p e below s 0 0 (Q_rm16s Z a1 cs s0 s1 s2 s3 s4 ca0 ca1 ca2 ca3 ca4 h0 n0) (T47.setTop (mkF m 65 #[.val (.ref a1), .val (.ref a1), .val (.ref a1)] [(.int (if ca3 = ca3 then (1 : Int32) else 0))]))
        by_cases hc50 : (ca3 = ca3)
        · refine Run.go (fun _ k => XS.ifNo Xg47.here hx rfl (hb hby d16_65) rfl ((if0 _ _).trans (feq (by rw [if_pos hc50]; decide)).1) k) ?_
          show Run p e below s 0 0 (Q_rm16s Z a1 cs s0 s1 s2 s3 s4 ca0 ca1 ca2 ca3 ca4 h0 n0) (T47.setTop (mkF m 68 #[.val (.ref a1), .val (.ref a1), .val (.ref a1)] []))
          refine Run.go (fun _ k => XS.aloadN Xg47.here hx rfl (hb hby d16_68) rfl rfl k) ?_
          show Run p e below s 0 0 (Q_rm16s Z a1 cs s0 s1 s2 s3 s4 ca0 ca1 ca2 ca3 ca4 h0 n0) (T47.setTop (mkF m 69 #[.val (.ref a1), .val (.ref a1), .val (.ref a1)] [(.ref a1)]))
          obtain ⟨T51, X51, e51, st51⟩ := getF Xg47 hx hZ hown (host := "") (Or.inl (hw _ (List.mem_of_getElem? (i := 68) rfl))) Via.refl e47q F_term_a1 (g := (mkF m 69 #[.val (.ref a1), .val (.ref a1), .val (.ref a1)] [(.ref a1)])) rfl rfl (hb hby d16_69)
          refine Run.go st51 ?_
          show Run p e below s 0 0 (Q_rm16s Z a1 cs s0 s1 s2 s3 s4 ca0 ca1 ca2 ca3 ca4 h0 n0) (T51.setTop (mkF m 72 #[.val (.ref a1), .val (.ref a1), .val (.ref a1)] [(.ref s4)]))
          refine Run.go (fun _ k => XS.aloadN X51.here hx rfl (hb hby d16_72) rfl rfl k) ?_
          show Run p e below s 0 0 (Q_rm16s Z a1 cs s0 s1 s2 s3 s4 ca0 ca1 ca2 ca3 ca4 h0 n0) (T51.setTop (mkF m 73 #[.val (.ref a1), .val (.ref a1), .val (.ref a1)] [(.ref a1), (.ref s4)]))
          obtain ⟨T52, X52, e52, st52⟩ := getF X51 hx hZ hown (host := "") (Or.inl (hw _ (List.mem_of_getElem? (i := 68) rfl))) Via.refl e51 F_term_a1 (g := (mkF m 73 #[.val (.ref a1), .val (.ref a1), .val (.ref a1)] [(.ref a1), (.ref s4)])) rfl rfl (hb hby d16_73)
          refine Run.go st52 ?_
          show Run p e below s 0 0 (Q_rm16s Z a1 cs s0 s1 s2 s3 s4 ca0 ca1 ca2 ca3 ca4 h0 n0) (T52.setTop (mkF m 76 #[.val (.ref a1), .val (.ref a1), .val (.ref a1)] [(.ref s4), (.ref s4)]))
          obtain ⟨o54t, o54k, o54E, o54V, o54C, o54K, o54b, o54l⟩ := id hX_s4
          obtain ⟨o55t, o55k, o55E, o55V, o55C, o55K, o55b, o55l⟩ := id hX_s4
          obtain ⟨cq53, kq53, q53a, q53b, q53c⟩ := isOf hZ e52 E_s4
          obtain ⟨_, _, ⟨T53, L53, k53, n53⟩, -, X53, ⟨Lc53, hQ53, l53, y53, z53⟩, st53⟩ := X52.virtualBack hx (y := (⟨"java/lang/String", "equals", "(Ljava/lang/Object;)Z"⟩ : MethodName)) (z := (⟨"java/lang/String", "equals", "(Ljava/lang/Object;)Z"⟩ : MethodName)) hown (mvT hZ (hw _ (List.mem_of_getElem? (i := 95) rfl))) (mvT hZ (hw _ (List.mem_of_getElem? (i := 96) rfl))) (notFace_of_selects (args := #[]) (mvT hZ (hw _ (List.mem_of_getElem? (i := 98) rfl)))) (mvT hZ (hw _ (List.mem_of_getElem? (i := 98) rfl))) (mvT hZ (hw _ (List.mem_of_getElem? (i := 97) rfl))) (by decide) (Back.mono (StrChars.Road.eqW (W := 0) hZ (fun d hd => hw d (own_wQ d hd)) (kI := 4) (hw _ (List.mem_of_getElem? (i := 14) rfl)) o54E o54V o54C o54K (own_cod o54b) (own_up o54b) (Nat.le_trans o54l (by decide)) o55E o55V o55C o55K (own_cod o55b) (own_up o55b) (Nat.le_trans o55l (by decide)) S_String_COMPACT_STRINGS hcs (by decide) (by decide)) (fun P a hp => hp) (fun P a v B hp hq => own_eqp hq)) q53a q53c (g := (mkF m 76 #[.val (.ref a1), .val (.ref a1), .val (.ref a1)] [(.ref s4), (.ref s4)])) rfl (by rw [hml]; rfl) (Steps.refl _) (argsL := [(.ref s4)]) (rest := []) (lenOf pd_7 rfl) rfl (by show 2 * 0 + _ ≤ _; exact Nat.le_of_eq rfl) (hb hby d16_76) (fun _ _ => ⟨rfl, e52, (by decide : 0 + 0 ≤ _), (by decide : 0 + 0 ≤ _)⟩)
          dsimp only [Pt.U, Pt.locs, Pt.cells, Pt.slots] at X53 l53 y53 z53 st53 hQ53
          subst l53 y53 z53
          obtain ⟨rfl, rfl, e53q⟩ := hQ53
          have N53q := Fr.nil n0
          have N53 := Fr.app Ng47 N53q
          obtain ⟨Lg53, Xg53, Ng53⟩ := Stand_gen X53 N53
          refine Run.tr st53 ?_
          show Run p e below s 0 0 (Q_rm16s Z a1 cs s0 s1 s2 s3 s4 ca0 ca1 ca2 ca3 ca4 h0 n0) (T53.setTop (mkF m 79 #[.val (.ref a1), .val (.ref a1), .val (.ref a1)] [(.int (if ca4 = ca4 then (1 : Int32) else 0))]))
          by_cases hc56 : (ca4 = ca4)
          · refine Run.go (fun _ k => XS.ifNo Xg53.here hx rfl (hb hby d16_79) rfl ((if0 _ _).trans (feq (by rw [if_pos hc56]; decide)).1) k) ?_
            show Run p e below s 0 0 (Q_rm16s Z a1 cs s0 s1 s2 s3 s4 ca0 ca1 ca2 ca3 ca4 h0 n0) (T53.setTop (mkF m 82 #[.val (.ref a1), .val (.ref a1), .val (.ref a1)] []))
            refine Run.go (fun _ k => XS.iconst Xg53.here hx rfl (hb hby d16_82) k) ?_
            show Run p e below s 0 0 (Q_rm16s Z a1 cs s0 s1 s2 s3 s4 ca0 ca1 ca2 ca3 ca4 h0 n0) (T53.setTop (mkF m 83 #[.val (.ref a1), .val (.ref a1), .val (.ref a1)] [(.int (1 : Int32))]))
            refine Run.go (fun _ k => XS.goto Xg53.here hx rfl (pc0 := 83) (pc' := 87) rfl (hb hby d16_83) (by decide) (by decide) k) ?_
            show Run p e below s 0 0 (Q_rm16s Z a1 cs s0 s1 s2 s3 s4 ca0 ca1 ca2 ca3 ca4 h0 n0) (T53.setTop (mkF m 87 #[.val (.ref a1), .val (.ref a1), .val (.ref a1)] [(.int (1 : Int32))]))
            exact J29 _ (if_pos ⟨hc32, ⟨hc38, ⟨hc44, ⟨hc50, hc56⟩⟩⟩⟩).symm _ _ Xg53 e53q Ng53
          · refine Run.go (fun _ k => XS.ifYes Xg53.here hx rfl (pc0 := 79) (pc' := 86) rfl (hb hby d16_79) rfl ((if0 _ _).trans (teq ((Eq.refl _).trans (if_neg hc56))).1) (by decide) (by decide) k) ?_
            show Run p e below s 0 0 (Q_rm16s Z a1 cs s0 s1 s2 s3 s4 ca0 ca1 ca2 ca3 ca4 h0 n0) (T53.setTop (mkF m 86 #[.val (.ref a1), .val (.ref a1), .val (.ref a1)] []))
            refine Run.go (fun _ k => XS.iconst Xg53.here hx rfl (hb hby d16_86) k) ?_
            show Run p e below s 0 0 (Q_rm16s Z a1 cs s0 s1 s2 s3 s4 ca0 ca1 ca2 ca3 ca4 h0 n0) (T53.setTop (mkF m 87 #[.val (.ref a1), .val (.ref a1), .val (.ref a1)] [(.int (0 : Int32))]))
            exact J29 _ (if_neg (fun q => (fun q => (fun q => (fun q => hc56 q.2) q.2) q.2) q.2)).symm _ _ Xg53 e53q Ng53
        · refine Run.go (fun _ k => XS.ifYes Xg47.here hx rfl (pc0 := 65) (pc' := 86) rfl (hb hby d16_65) rfl ((if0 _ _).trans (teq ((Eq.refl _).trans (if_neg hc50))).1) (by decide) (by decide) k) ?_
          show Run p e below s 0 0 (Q_rm16s Z a1 cs s0 s1 s2 s3 s4 ca0 ca1 ca2 ca3 ca4 h0 n0) (T47.setTop (mkF m 86 #[.val (.ref a1), .val (.ref a1), .val (.ref a1)] []))
          refine Run.go (fun _ k => XS.iconst Xg47.here hx rfl (hb hby d16_86) k) ?_
          show Run p e below s 0 0 (Q_rm16s Z a1 cs s0 s1 s2 s3 s4 ca0 ca1 ca2 ca3 ca4 h0 n0) (T47.setTop (mkF m 87 #[.val (.ref a1), .val (.ref a1), .val (.ref a1)] [(.int (0 : Int32))]))
          exact J29 _ (if_neg (fun q => (fun q => (fun q => (fun q => hc50 q.1) q.2) q.2) q.2)).symm _ _ Xg47 e47q Ng47
      · refine Run.go (fun _ k => XS.ifYes Xg41.here hx rfl (pc0 := 51) (pc' := 86) rfl (hb hby d16_51) rfl ((if0 _ _).trans (teq ((Eq.refl _).trans (if_neg hc44))).1) (by decide) (by decide) k) ?_
        show Run p e below s 0 0 (Q_rm16s Z a1 cs s0 s1 s2 s3 s4 ca0 ca1 ca2 ca3 ca4 h0 n0) (T41.setTop (mkF m 86 #[.val (.ref a1), .val (.ref a1), .val (.ref a1)] []))
        refine Run.go (fun _ k => XS.iconst Xg41.here hx rfl (hb hby d16_86) k) ?_
        show Run p e below s 0 0 (Q_rm16s Z a1 cs s0 s1 s2 s3 s4 ca0 ca1 ca2 ca3 ca4 h0 n0) (T41.setTop (mkF m 87 #[.val (.ref a1), .val (.ref a1), .val (.ref a1)] [(.int (0 : Int32))]))
        exact J29 _ (if_neg (fun q => (fun q => (fun q => hc44 q.1) q.2) q.2)).symm _ _ Xg41 e41q Ng41
    · refine Run.go (fun _ k => XS.ifYes Xg35.here hx rfl (pc0 := 37) (pc' := 86) rfl (hb hby d16_37) rfl ((if0 _ _).trans (teq ((Eq.refl _).trans (if_neg hc38))).1) (by decide) (by decide) k) ?_
      show Run p e below s 0 0 (Q_rm16s Z a1 cs s0 s1 s2 s3 s4 ca0 ca1 ca2 ca3 ca4 h0 n0) (T35.setTop (mkF m 86 #[.val (.ref a1), .val (.ref a1), .val (.ref a1)] []))
      refine Run.go (fun _ k => XS.iconst Xg35.here hx rfl (hb hby d16_86) k) ?_
      show Run p e below s 0 0 (Q_rm16s Z a1 cs s0 s1 s2 s3 s4 ca0 ca1 ca2 ca3 ca4 h0 n0) (T35.setTop (mkF m 87 #[.val (.ref a1), .val (.ref a1), .val (.ref a1)] [(.int (0 : Int32))]))
      exact J29 _ (if_neg (fun q => (fun q => hc38 q.1) q.2)).symm _ _ Xg35 e35q Ng35
  · refine Run.go (fun _ k => XS.ifYes Xg6.here hx rfl (pc0 := 23) (pc' := 86) rfl (hb hby d16_23) rfl ((if0 _ _).trans (teq ((Eq.refl _).trans (if_neg hc32))).1) (by decide) (by decide) k) ?_
    show Run p e below s 0 0 (Q_rm16s Z a1 cs s0 s1 s2 s3 s4 ca0 ca1 ca2 ca3 ca4 h0 n0) (T6.setTop (mkF m 86 #[.val (.ref a1), .val (.ref a1), .val (.ref a1)] []))
    refine Run.go (fun _ k => XS.iconst Xg6.here hx rfl (hb hby d16_86) k) ?_
    show Run p e below s 0 0 (Q_rm16s Z a1 cs s0 s1 s2 s3 s4 ca0 ca1 ca2 ca3 ca4 h0 n0) (T6.setTop (mkF m 87 #[.val (.ref a1), .val (.ref a1), .val (.ref a1)] [(.int (0 : Int32))]))
    exact J29 _ (if_neg (fun q => hc32 q.1)).symm _ _ Xg6 e6q Ng6
theorem d1_0 : decode method_2_code 0 = .ok (.lload 4, 2) := by decide +kernel
theorem d1_2 : decode method_2_code 2 = .ok (.bipush 40, 2) := by decide +kernel
theorem d1_4 : decode method_2_code 4 = .ok (.iconst 2, 1) := by decide +kernel
theorem d1_5 : decode method_2_code 5 = .ok (.iload 6, 2) := by decide +kernel
theorem d1_7 : decode method_2_code 7 = .ok (.imul, 1) := by decide +kernel
theorem d1_8 : decode method_2_code 8 = .ok (.iadd, 1) := by decide +kernel
theorem d1_9 : decode method_2_code 9 = .ok (.lushr, 1) := by decide +kernel
theorem d1_10 : decode method_2_code 10 = .ok (.ldc2_w 7, 3) := by decide +kernel
theorem d1_13 : decode method_2_code 13 = .ok (.land, 1) := by decide +kernel
theorem d1_14 : decode method_2_code 14 = .ok (.l2i, 1) := by decide +kernel
theorem d1_15 : decode method_2_code 15 = .ok (.istore 8, 2) := by decide +kernel
theorem d1_17 : decode method_2_code 17 = .ok (.iload 7, 2) := by decide +kernel
theorem d1_19 : decode method_2_code 19 = .ok (.ifCond .eq 14, 3) := by decide +kernel
theorem d1_33 : decode method_2_code 33 = .ok (.iload 8, 2) := by decide +kernel
theorem d1_35 : decode method_2_code 35 = .ok (.iconst 3, 1) := by decide +kernel
theorem d1_36 : decode method_2_code 36 = .ok (.irem, 1) := by decide +kernel
theorem d1_37 : decode method_2_code 37 = .ok (.istore 9, 2) := by decide +kernel
theorem d1_39 : decode method_2_code 39 = .ok (.iconst 0, 1) := by decide +kernel
theorem d1_40 : decode method_2_code 40 = .ok (.istore 10, 2) := by decide +kernel
theorem d1_42 : decode method_2_code 42 = .ok (.iconst 0, 1) := by decide +kernel
theorem d1_43 : decode method_2_code 43 = .ok (.istore 11, 2) := by decide +kernel
theorem d1_45 : decode method_2_code 45 = .ok (.iload 9, 2) := by decide +kernel
theorem d1_47 : decode method_2_code 47 = .ok (.iconst 1, 1) := by decide +kernel
theorem d1_48 : decode method_2_code 48 = .ok (.if_icmp .lt 17, 3) := by decide +kernel
theorem d1_51 : decode method_2_code 51 = .ok (.lload_n 0, 1) := by decide +kernel
theorem d1_52 : decode method_2_code 52 = .ok (.bipush 8, 2) := by decide +kernel
theorem d1_54 : decode method_2_code 54 = .ok (.iload 6, 2) := by decide +kernel
theorem d1_56 : decode method_2_code 56 = .ok (.imul, 1) := by decide +kernel
theorem d1_57 : decode method_2_code 57 = .ok (.lushr, 1) := by decide +kernel
theorem d1_58 : decode method_2_code 58 = .ok (.ldc2_w 9, 3) := by decide +kernel
theorem d1_61 : decode method_2_code 61 = .ok (.land, 1) := by decide +kernel
theorem d1_62 : decode method_2_code 62 = .ok (.l2i, 1) := by decide +kernel
theorem d1_63 : decode method_2_code 63 = .ok (.istore 10, 2) := by decide +kernel
theorem d1_65 : decode method_2_code 65 = .ok (.iload 9, 2) := by decide +kernel
theorem d1_67 : decode method_2_code 67 = .ok (.iconst 2, 1) := by decide +kernel
theorem d1_68 : decode method_2_code 68 = .ok (.if_icmp .lt 17, 3) := by decide +kernel
theorem d1_71 : decode method_2_code 71 = .ok (.lload_n 2, 1) := by decide +kernel
theorem d1_72 : decode method_2_code 72 = .ok (.bipush 8, 2) := by decide +kernel
theorem d1_74 : decode method_2_code 74 = .ok (.iload 6, 2) := by decide +kernel
theorem d1_76 : decode method_2_code 76 = .ok (.imul, 1) := by decide +kernel
theorem d1_77 : decode method_2_code 77 = .ok (.lushr, 1) := by decide +kernel
theorem d1_78 : decode method_2_code 78 = .ok (.ldc2_w 9, 3) := by decide +kernel
theorem d1_81 : decode method_2_code 81 = .ok (.land, 1) := by decide +kernel
theorem d1_82 : decode method_2_code 82 = .ok (.l2i, 1) := by decide +kernel
theorem d1_83 : decode method_2_code 83 = .ok (.istore 11, 2) := by decide +kernel
theorem d1_85 : decode method_2_code 85 = .ok (.iload 9, 2) := by decide +kernel
theorem d1_87 : decode method_2_code 87 = .ok (.bipush 16, 2) := by decide +kernel
theorem d1_89 : decode method_2_code 89 = .ok (.ishl, 1) := by decide +kernel
theorem d1_90 : decode method_2_code 90 = .ok (.iload 10, 2) := by decide +kernel
theorem d1_92 : decode method_2_code 92 = .ok (.bipush 8, 2) := by decide +kernel
theorem d1_94 : decode method_2_code 94 = .ok (.ishl, 1) := by decide +kernel
theorem d1_95 : decode method_2_code 95 = .ok (.ior, 1) := by decide +kernel
theorem d1_96 : decode method_2_code 96 = .ok (.iload 11, 2) := by decide +kernel
theorem d1_98 : decode method_2_code 98 = .ok (.ior, 1) := by decide +kernel
theorem d1_99 : decode method_2_code 99 = .ok (.ireturn, 1) := by decide +kernel
def F_rm1_0 (q1 : Int64) (q2 : Int64) (q3 : Int64) : Int32 := let w5 : Int32 := (if ((((((q3.toUInt64 >>> ((40 : Int32) &&& 0x3f).toInt64.toUInt64).toInt64) &&& (3 : Int64)).toInt32) % (3 : Int32)) < (1 : Int32)) then (0 : Int32) else ((((q1.toUInt64 >>> ((0 : Int32) &&& 0x3f).toInt64.toUInt64).toInt64) &&& (255 : Int64)).toInt32)); let w8 : Int32 := (if ((((((q3.toUInt64 >>> ((40 : Int32) &&& 0x3f).toInt64.toUInt64).toInt64) &&& (3 : Int64)).toInt32) % (3 : Int32)) < (2 : Int32)) then (0 : Int32) else ((((q2.toUInt64 >>> ((0 : Int32) &&& 0x3f).toInt64.toUInt64).toInt64) &&& (255 : Int64)).toInt32)); ((((((((q3.toUInt64 >>> ((40 : Int32) &&& 0x3f).toInt64.toUInt64).toInt64) &&& (3 : Int64)).toInt32) % (3 : Int32)) <<< ((16 : Int32) &&& 31)) ||| (w5 <<< ((8 : Int32) &&& 31))) ||| w8)
def Q_rm1_0 (Z : State) (q1 : Int64) (q2 : Int64) (q3 : Int64) (h0 : Heap) (n0 : Nat) (v : Option Value) (h : Heap) (L : List Loc) : Prop := v = some (.int (F_rm1_0 q1 q2 q3)) ∧ Fr n0 L ∧ h = h0
theorem ef_rm1_0 (m : MethodId) (x0 : Int64) (x1 : Int64) (x2 : Int64) : entryFrame m #[(.long x0), (.long x1), (.long x2), (.int (0 : Int32)), (.int (0 : Int32))] 12 = mkF m 0 #[.val (.long x0), .second, .val (.long x1), .second, .val (.long x2), .second, .val (.int (0 : Int32)), .val (.int (0 : Int32)), .unset, .unset, .unset, .unset] [] := by first | (simp [entryFrame, mkF, argsToLocals, Value.category]; done) | rfl
set_option maxRecDepth 65536 in
set_option maxHeartbeats 40000000 in
theorem rm1_0 (l : Launch) (Z : State) (a0 : Array Value) (hw : ∀ d ∈ tables_1, d.before a0 Z = true) (ws : List Jvm.Cond) (q1 : Int64) (q2 : Int64) (q3 : Int64) (h0 : Heap) (n0 : Nat) (Z0 : n0 ≤ h0.size)  :
    MetFree l (⟨"com/example/subjectory/subjectory/heading/ClassLinkEqualsPinLaw", "spec", "(JJJIZ)I"⟩ : MethodName) (head1 (Jvm.Cond.code (⟨"com/example/subjectory/subjectory/heading/ClassLinkEqualsPinLaw", "spec", "(JJJIZ)I"⟩ : MethodName) method_2_code 12 (some .int) :: ws) ({ frames := 0, cells := 0, slots := 0, locals := 0 } : Room)) (fun a U => a = #[(.long q1), (.long q2), (.long q3), (.int (0 : Int32)), (.int (0 : Int32))] ∧ Z.Warmed39 U.vm ∧ U.heap = h0) (fun _ _ _ _ _ => True) (fun _ U o U' => ∃ v L, o = .returned v ∧ Q_rm1_0 Z q1 q2 q3 h0 n0 v U'.heap L ∧ FrameEnd U o U' L ({ frames := 0, cells := 0, slots := 0, locals := 0 } : Room).cells ({ frames := 0, cells := 0, slots := 0, locals := 0 } : Room).slots) := by
  refine MetFree.of_bodySF (plainFor_of_name pn_2) hisR ?_
  intro p e s m args below meth c s₁ Bd hml0 hP hK
  obtain ⟨rfl, hZ, hh⟩ := hP
  have hx := Bd.exec
  have hby := Bd.bytes
  have hml : c.maxLocals = 12 := hml0
  have hown : s.vm.findClass "com/example/subjectory/subjectory/heading/ClassLinkEqualsPinLaw" = some m.cls := findClass_of_methodNamed Bd.named
  have hnm := (name_of_methodNamed Bd.named Bd.method).1
  have X0 : Stand p l e ({ frames := 0, cells := 0, slots := 0, locals := 0 } : Room) s m #[(.long q1), (.long q2), (.long q3), (.int (0 : Int32)), (.int (0 : Int32))] below meth c s₁ [] 0 0 := Stand.of_body Bd
  have e0 : s₁.heap = h0 := by rw [← hh, Bd.state]; rfl
  have N0 := Fr.nil n0
  show Run p e below s 0 0 (Q_rm1_0 Z q1 q2 q3 h0 n0) (s₁.setTop (entryFrame m #[(.long q1), (.long q2), (.long q3), (.int (0 : Int32)), (.int (0 : Int32))] 12))
  refine Run.go (fun _ k => castTop (ef_rm1_0 m q1 q2 q3) k) ?_
  show Run p e below s 0 0 (Q_rm1_0 Z q1 q2 q3 h0 n0) (s₁.setTop (mkF m 0 #[.val (.long q1), .second, .val (.long q2), .second, .val (.long q3), .second, .val (.int (0 : Int32)), .val (.int (0 : Int32)), .unset, .unset, .unset, .unset] []))
  refine Run.go (fun _ k => XS.lload X0.here hx rfl (hb hby d1_0) rfl  k) ?_
  show Run p e below s 0 0 (Q_rm1_0 Z q1 q2 q3 h0 n0) (s₁.setTop (mkF m 2 #[.val (.long q1), .second, .val (.long q2), .second, .val (.long q3), .second, .val (.int (0 : Int32)), .val (.int (0 : Int32)), .unset, .unset, .unset, .unset] [(.long q3)]))
  refine Run.go (fun _ k => XS.bipush X0.here hx rfl (hb hby d1_2) k) ?_
  show Run p e below s 0 0 (Q_rm1_0 Z q1 q2 q3 h0 n0) (s₁.setTop (mkF m 4 #[.val (.long q1), .second, .val (.long q2), .second, .val (.long q3), .second, .val (.int (0 : Int32)), .val (.int (0 : Int32)), .unset, .unset, .unset, .unset] [(.int (40 : Int32)), (.long q3)]))
  refine Run.go (fun _ k => XS.iconst X0.here hx rfl (hb hby d1_4) k) ?_
  show Run p e below s 0 0 (Q_rm1_0 Z q1 q2 q3 h0 n0) (s₁.setTop (mkF m 5 #[.val (.long q1), .second, .val (.long q2), .second, .val (.long q3), .second, .val (.int (0 : Int32)), .val (.int (0 : Int32)), .unset, .unset, .unset, .unset] [(.int (2 : Int32)), (.int (40 : Int32)), (.long q3)]))
  refine Run.go (fun _ k => XS.iload X0.here hx rfl (hb hby d1_5) rfl  k) ?_
  show Run p e below s 0 0 (Q_rm1_0 Z q1 q2 q3 h0 n0) (s₁.setTop (mkF m 7 #[.val (.long q1), .second, .val (.long q2), .second, .val (.long q3), .second, .val (.int (0 : Int32)), .val (.int (0 : Int32)), .unset, .unset, .unset, .unset] [(.int (0 : Int32)), (.int (2 : Int32)), (.int (40 : Int32)), (.long q3)]))
  refine Run.go (fun _ k => XS.imul X0.here hx rfl (hb hby d1_7) rfl k) ?_
  show Run p e below s 0 0 (Q_rm1_0 Z q1 q2 q3 h0 n0) (s₁.setTop (mkF m 8 #[.val (.long q1), .second, .val (.long q2), .second, .val (.long q3), .second, .val (.int (0 : Int32)), .val (.int (0 : Int32)), .unset, .unset, .unset, .unset] [(.int (0 : Int32)), (.int (40 : Int32)), (.long q3)]))
  refine Run.go (fun _ k => XS.iadd X0.here hx rfl (hb hby d1_8) rfl k) ?_
  show Run p e below s 0 0 (Q_rm1_0 Z q1 q2 q3 h0 n0) (s₁.setTop (mkF m 9 #[.val (.long q1), .second, .val (.long q2), .second, .val (.long q3), .second, .val (.int (0 : Int32)), .val (.int (0 : Int32)), .unset, .unset, .unset, .unset] [(.int (40 : Int32)), (.long q3)]))
  refine Run.go (fun _ k => XS.lushr X0.here hx rfl (hb hby d1_9) rfl k) ?_
  show Run p e below s 0 0 (Q_rm1_0 Z q1 q2 q3 h0 n0) (s₁.setTop (mkF m 10 #[.val (.long q1), .second, .val (.long q2), .second, .val (.long q3), .second, .val (.int (0 : Int32)), .val (.int (0 : Int32)), .unset, .unset, .unset, .unset] [(.long ((q3.toUInt64 >>> ((40 : Int32) &&& 0x3f).toInt64.toUInt64).toInt64))]))
  refine Run.go (fun _ k => X0.ldc2Long hx hown (mvT hZ (hw _ (List.mem_of_getElem? (i := 4) rfl))) (g := (mkF m 10 #[.val (.long q1), .second, .val (.long q2), .second, .val (.long q3), .second, .val (.int (0 : Int32)), .val (.int (0 : Int32)), .unset, .unset, .unset, .unset] [(.long ((q3.toUInt64 >>> ((40 : Int32) &&& 0x3f).toInt64.toUInt64).toInt64))])) rfl (hb hby d1_10) _ k) ?_
  show Run p e below s 0 0 (Q_rm1_0 Z q1 q2 q3 h0 n0) (s₁.setTop (mkF m 13 #[.val (.long q1), .second, .val (.long q2), .second, .val (.long q3), .second, .val (.int (0 : Int32)), .val (.int (0 : Int32)), .unset, .unset, .unset, .unset] [(.long (3 : Int64)), (.long ((q3.toUInt64 >>> ((40 : Int32) &&& 0x3f).toInt64.toUInt64).toInt64))]))
  refine Run.go (fun _ k => XS.land X0.here hx rfl (hb hby d1_13) rfl k) ?_
  show Run p e below s 0 0 (Q_rm1_0 Z q1 q2 q3 h0 n0) (s₁.setTop (mkF m 14 #[.val (.long q1), .second, .val (.long q2), .second, .val (.long q3), .second, .val (.int (0 : Int32)), .val (.int (0 : Int32)), .unset, .unset, .unset, .unset] [(.long (((q3.toUInt64 >>> ((40 : Int32) &&& 0x3f).toInt64.toUInt64).toInt64) &&& (3 : Int64)))]))
  refine Run.go (fun _ k => XS.l2i X0.here hx rfl (hb hby d1_14) rfl k) ?_
  show Run p e below s 0 0 (Q_rm1_0 Z q1 q2 q3 h0 n0) (s₁.setTop (mkF m 15 #[.val (.long q1), .second, .val (.long q2), .second, .val (.long q3), .second, .val (.int (0 : Int32)), .val (.int (0 : Int32)), .unset, .unset, .unset, .unset] [(.int ((((q3.toUInt64 >>> ((40 : Int32) &&& 0x3f).toInt64.toUInt64).toInt64) &&& (3 : Int64)).toInt32))]))
  refine Run.go (fun _ k => XS.istore X0.here hx rfl (hb hby d1_15) rfl (l' := #[.val (.long q1), .second, .val (.long q2), .second, .val (.long q3), .second, .val (.int (0 : Int32)), .val (.int (0 : Int32)), .val (.int ((((q3.toUInt64 >>> ((40 : Int32) &&& 0x3f).toInt64.toUInt64).toInt64) &&& (3 : Int64)).toInt32)), .unset, .unset, .unset]) rfl k) ?_
  show Run p e below s 0 0 (Q_rm1_0 Z q1 q2 q3 h0 n0) (s₁.setTop (mkF m 17 #[.val (.long q1), .second, .val (.long q2), .second, .val (.long q3), .second, .val (.int (0 : Int32)), .val (.int (0 : Int32)), .val (.int ((((q3.toUInt64 >>> ((40 : Int32) &&& 0x3f).toInt64.toUInt64).toInt64) &&& (3 : Int64)).toInt32)), .unset, .unset, .unset] []))
  refine Run.go (fun _ k => XS.iload X0.here hx rfl (hb hby d1_17) rfl  k) ?_
  show Run p e below s 0 0 (Q_rm1_0 Z q1 q2 q3 h0 n0) (s₁.setTop (mkF m 19 #[.val (.long q1), .second, .val (.long q2), .second, .val (.long q3), .second, .val (.int (0 : Int32)), .val (.int (0 : Int32)), .val (.int ((((q3.toUInt64 >>> ((40 : Int32) &&& 0x3f).toInt64.toUInt64).toInt64) &&& (3 : Int64)).toInt32)), .unset, .unset, .unset] [(.int (0 : Int32))]))
  refine Run.go (fun _ k => XS.ifYes X0.here hx rfl (pc0 := 19) (pc' := 33) rfl (hb hby d1_19) rfl ((if0 _ _).trans (teq (rfl : (0 : Int32) = (0 : Int32))).1) (by decide) (by decide) k) ?_
  show Run p e below s 0 0 (Q_rm1_0 Z q1 q2 q3 h0 n0) (s₁.setTop (mkF m 33 #[.val (.long q1), .second, .val (.long q2), .second, .val (.long q3), .second, .val (.int (0 : Int32)), .val (.int (0 : Int32)), .val (.int ((((q3.toUInt64 >>> ((40 : Int32) &&& 0x3f).toInt64.toUInt64).toInt64) &&& (3 : Int64)).toInt32)), .unset, .unset, .unset] []))
  refine Run.go (fun _ k => XS.iload X0.here hx rfl (hb hby d1_33) rfl  k) ?_
  show Run p e below s 0 0 (Q_rm1_0 Z q1 q2 q3 h0 n0) (s₁.setTop (mkF m 35 #[.val (.long q1), .second, .val (.long q2), .second, .val (.long q3), .second, .val (.int (0 : Int32)), .val (.int (0 : Int32)), .val (.int ((((q3.toUInt64 >>> ((40 : Int32) &&& 0x3f).toInt64.toUInt64).toInt64) &&& (3 : Int64)).toInt32)), .unset, .unset, .unset] [(.int ((((q3.toUInt64 >>> ((40 : Int32) &&& 0x3f).toInt64.toUInt64).toInt64) &&& (3 : Int64)).toInt32))]))
  refine Run.go (fun _ k => XS.iconst X0.here hx rfl (hb hby d1_35) k) ?_
  show Run p e below s 0 0 (Q_rm1_0 Z q1 q2 q3 h0 n0) (s₁.setTop (mkF m 36 #[.val (.long q1), .second, .val (.long q2), .second, .val (.long q3), .second, .val (.int (0 : Int32)), .val (.int (0 : Int32)), .val (.int ((((q3.toUInt64 >>> ((40 : Int32) &&& 0x3f).toInt64.toUInt64).toInt64) &&& (3 : Int64)).toInt32)), .unset, .unset, .unset] [(.int (3 : Int32)), (.int ((((q3.toUInt64 >>> ((40 : Int32) &&& 0x3f).toInt64.toUInt64).toInt64) &&& (3 : Int64)).toInt32))]))
  refine Run.go (fun _ k => iremM X0 hx rfl (hb hby d1_36) rfl (by decide) k) ?_
  show Run p e below s 0 0 (Q_rm1_0 Z q1 q2 q3 h0 n0) (s₁.setTop (mkF m 37 #[.val (.long q1), .second, .val (.long q2), .second, .val (.long q3), .second, .val (.int (0 : Int32)), .val (.int (0 : Int32)), .val (.int ((((q3.toUInt64 >>> ((40 : Int32) &&& 0x3f).toInt64.toUInt64).toInt64) &&& (3 : Int64)).toInt32)), .unset, .unset, .unset] [(.int (((((q3.toUInt64 >>> ((40 : Int32) &&& 0x3f).toInt64.toUInt64).toInt64) &&& (3 : Int64)).toInt32) % (3 : Int32)))]))
  refine Run.go (fun _ k => XS.istore X0.here hx rfl (hb hby d1_37) rfl (l' := #[.val (.long q1), .second, .val (.long q2), .second, .val (.long q3), .second, .val (.int (0 : Int32)), .val (.int (0 : Int32)), .val (.int ((((q3.toUInt64 >>> ((40 : Int32) &&& 0x3f).toInt64.toUInt64).toInt64) &&& (3 : Int64)).toInt32)), .val (.int (((((q3.toUInt64 >>> ((40 : Int32) &&& 0x3f).toInt64.toUInt64).toInt64) &&& (3 : Int64)).toInt32) % (3 : Int32))), .unset, .unset]) rfl k) ?_
  show Run p e below s 0 0 (Q_rm1_0 Z q1 q2 q3 h0 n0) (s₁.setTop (mkF m 39 #[.val (.long q1), .second, .val (.long q2), .second, .val (.long q3), .second, .val (.int (0 : Int32)), .val (.int (0 : Int32)), .val (.int ((((q3.toUInt64 >>> ((40 : Int32) &&& 0x3f).toInt64.toUInt64).toInt64) &&& (3 : Int64)).toInt32)), .val (.int (((((q3.toUInt64 >>> ((40 : Int32) &&& 0x3f).toInt64.toUInt64).toInt64) &&& (3 : Int64)).toInt32) % (3 : Int32))), .unset, .unset] []))
  refine Run.go (fun _ k => XS.iconst X0.here hx rfl (hb hby d1_39) k) ?_
  show Run p e below s 0 0 (Q_rm1_0 Z q1 q2 q3 h0 n0) (s₁.setTop (mkF m 40 #[.val (.long q1), .second, .val (.long q2), .second, .val (.long q3), .second, .val (.int (0 : Int32)), .val (.int (0 : Int32)), .val (.int ((((q3.toUInt64 >>> ((40 : Int32) &&& 0x3f).toInt64.toUInt64).toInt64) &&& (3 : Int64)).toInt32)), .val (.int (((((q3.toUInt64 >>> ((40 : Int32) &&& 0x3f).toInt64.toUInt64).toInt64) &&& (3 : Int64)).toInt32) % (3 : Int32))), .unset, .unset] [(.int (0 : Int32))]))
  refine Run.go (fun _ k => XS.istore X0.here hx rfl (hb hby d1_40) rfl (l' := #[.val (.long q1), .second, .val (.long q2), .second, .val (.long q3), .second, .val (.int (0 : Int32)), .val (.int (0 : Int32)), .val (.int ((((q3.toUInt64 >>> ((40 : Int32) &&& 0x3f).toInt64.toUInt64).toInt64) &&& (3 : Int64)).toInt32)), .val (.int (((((q3.toUInt64 >>> ((40 : Int32) &&& 0x3f).toInt64.toUInt64).toInt64) &&& (3 : Int64)).toInt32) % (3 : Int32))), .val (.int (0 : Int32)), .unset]) rfl k) ?_
  show Run p e below s 0 0 (Q_rm1_0 Z q1 q2 q3 h0 n0) (s₁.setTop (mkF m 42 #[.val (.long q1), .second, .val (.long q2), .second, .val (.long q3), .second, .val (.int (0 : Int32)), .val (.int (0 : Int32)), .val (.int ((((q3.toUInt64 >>> ((40 : Int32) &&& 0x3f).toInt64.toUInt64).toInt64) &&& (3 : Int64)).toInt32)), .val (.int (((((q3.toUInt64 >>> ((40 : Int32) &&& 0x3f).toInt64.toUInt64).toInt64) &&& (3 : Int64)).toInt32) % (3 : Int32))), .val (.int (0 : Int32)), .unset] []))
  refine Run.go (fun _ k => XS.iconst X0.here hx rfl (hb hby d1_42) k) ?_
  show Run p e below s 0 0 (Q_rm1_0 Z q1 q2 q3 h0 n0) (s₁.setTop (mkF m 43 #[.val (.long q1), .second, .val (.long q2), .second, .val (.long q3), .second, .val (.int (0 : Int32)), .val (.int (0 : Int32)), .val (.int ((((q3.toUInt64 >>> ((40 : Int32) &&& 0x3f).toInt64.toUInt64).toInt64) &&& (3 : Int64)).toInt32)), .val (.int (((((q3.toUInt64 >>> ((40 : Int32) &&& 0x3f).toInt64.toUInt64).toInt64) &&& (3 : Int64)).toInt32) % (3 : Int32))), .val (.int (0 : Int32)), .unset] [(.int (0 : Int32))]))
  refine Run.go (fun _ k => XS.istore X0.here hx rfl (hb hby d1_43) rfl (l' := #[.val (.long q1), .second, .val (.long q2), .second, .val (.long q3), .second, .val (.int (0 : Int32)), .val (.int (0 : Int32)), .val (.int ((((q3.toUInt64 >>> ((40 : Int32) &&& 0x3f).toInt64.toUInt64).toInt64) &&& (3 : Int64)).toInt32)), .val (.int (((((q3.toUInt64 >>> ((40 : Int32) &&& 0x3f).toInt64.toUInt64).toInt64) &&& (3 : Int64)).toInt32) % (3 : Int32))), .val (.int (0 : Int32)), .val (.int (0 : Int32))]) rfl k) ?_
  show Run p e below s 0 0 (Q_rm1_0 Z q1 q2 q3 h0 n0) (s₁.setTop (mkF m 45 #[.val (.long q1), .second, .val (.long q2), .second, .val (.long q3), .second, .val (.int (0 : Int32)), .val (.int (0 : Int32)), .val (.int ((((q3.toUInt64 >>> ((40 : Int32) &&& 0x3f).toInt64.toUInt64).toInt64) &&& (3 : Int64)).toInt32)), .val (.int (((((q3.toUInt64 >>> ((40 : Int32) &&& 0x3f).toInt64.toUInt64).toInt64) &&& (3 : Int64)).toInt32) % (3 : Int32))), .val (.int (0 : Int32)), .val (.int (0 : Int32))] []))
  refine Run.go (fun _ k => XS.iload X0.here hx rfl (hb hby d1_45) rfl  k) ?_
  show Run p e below s 0 0 (Q_rm1_0 Z q1 q2 q3 h0 n0) (s₁.setTop (mkF m 47 #[.val (.long q1), .second, .val (.long q2), .second, .val (.long q3), .second, .val (.int (0 : Int32)), .val (.int (0 : Int32)), .val (.int ((((q3.toUInt64 >>> ((40 : Int32) &&& 0x3f).toInt64.toUInt64).toInt64) &&& (3 : Int64)).toInt32)), .val (.int (((((q3.toUInt64 >>> ((40 : Int32) &&& 0x3f).toInt64.toUInt64).toInt64) &&& (3 : Int64)).toInt32) % (3 : Int32))), .val (.int (0 : Int32)), .val (.int (0 : Int32))] [(.int (((((q3.toUInt64 >>> ((40 : Int32) &&& 0x3f).toInt64.toUInt64).toInt64) &&& (3 : Int64)).toInt32) % (3 : Int32)))]))
  refine Run.go (fun _ k => XS.iconst X0.here hx rfl (hb hby d1_47) k) ?_
  show Run p e below s 0 0 (Q_rm1_0 Z q1 q2 q3 h0 n0) (s₁.setTop (mkF m 48 #[.val (.long q1), .second, .val (.long q2), .second, .val (.long q3), .second, .val (.int (0 : Int32)), .val (.int (0 : Int32)), .val (.int ((((q3.toUInt64 >>> ((40 : Int32) &&& 0x3f).toInt64.toUInt64).toInt64) &&& (3 : Int64)).toInt32)), .val (.int (((((q3.toUInt64 >>> ((40 : Int32) &&& 0x3f).toInt64.toUInt64).toInt64) &&& (3 : Int64)).toInt32) % (3 : Int32))), .val (.int (0 : Int32)), .val (.int (0 : Int32))] [(.int (1 : Int32)), (.int (((((q3.toUInt64 >>> ((40 : Int32) &&& 0x3f).toInt64.toUInt64).toInt64) &&& (3 : Int64)).toInt32) % (3 : Int32)))]))
  have J4 : ∀ (w5 : Int32) (hw5 : w5 = (if ((((((q3.toUInt64 >>> ((40 : Int32) &&& 0x3f).toInt64.toUInt64).toInt64) &&& (3 : Int64)).toInt32) % (3 : Int32)) < (1 : Int32)) then (0 : Int32) else ((((q1.toUInt64 >>> ((0 : Int32) &&& 0x3f).toInt64.toUInt64).toInt64) &&& (255 : Int64)).toInt32))) (T6 : State) (L6 : List Loc) (X6 : Stand p l e ({ frames := 0, cells := 0, slots := 0, locals := 0 } : Room) s m #[(.long q1), (.long q2), (.long q3), (.int (0 : Int32)), (.int (0 : Int32))] below meth c T6 L6 0 0) (e6 : T6.heap = h0) (N6 : Fr n0 L6), Run p e below s 0 0 (Q_rm1_0 Z q1 q2 q3 h0 n0) (T6.setTop (mkF m 65 #[.val (.long q1), .second, .val (.long q2), .second, .val (.long q3), .second, .val (.int (0 : Int32)), .val (.int (0 : Int32)), .val (.int ((((q3.toUInt64 >>> ((40 : Int32) &&& 0x3f).toInt64.toUInt64).toInt64) &&& (3 : Int64)).toInt32)), .val (.int (((((q3.toUInt64 >>> ((40 : Int32) &&& 0x3f).toInt64.toUInt64).toInt64) &&& (3 : Int64)).toInt32) % (3 : Int32))), .val (.int w5), .val (.int (0 : Int32))] [])) := by
    intro w5 hw5 T6 L6 X6 e6 N6
    show Run p e below s 0 0 (Q_rm1_0 Z q1 q2 q3 h0 n0) (T6.setTop (mkF m 65 #[.val (.long q1), .second, .val (.long q2), .second, .val (.long q3), .second, .val (.int (0 : Int32)), .val (.int (0 : Int32)), .val (.int ((((q3.toUInt64 >>> ((40 : Int32) &&& 0x3f).toInt64.toUInt64).toInt64) &&& (3 : Int64)).toInt32)), .val (.int (((((q3.toUInt64 >>> ((40 : Int32) &&& 0x3f).toInt64.toUInt64).toInt64) &&& (3 : Int64)).toInt32) % (3 : Int32))), .val (.int w5), .val (.int (0 : Int32))] []))
    refine Run.go (fun _ k => XS.iload X6.here hx rfl (hb hby d1_65) rfl  k) ?_
    show Run p e below s 0 0 (Q_rm1_0 Z q1 q2 q3 h0 n0) (T6.setTop (mkF m 67 #[.val (.long q1), .second, .val (.long q2), .second, .val (.long q3), .second, .val (.int (0 : Int32)), .val (.int (0 : Int32)), .val (.int ((((q3.toUInt64 >>> ((40 : Int32) &&& 0x3f).toInt64.toUInt64).toInt64) &&& (3 : Int64)).toInt32)), .val (.int (((((q3.toUInt64 >>> ((40 : Int32) &&& 0x3f).toInt64.toUInt64).toInt64) &&& (3 : Int64)).toInt32) % (3 : Int32))), .val (.int w5), .val (.int (0 : Int32))] [(.int (((((q3.toUInt64 >>> ((40 : Int32) &&& 0x3f).toInt64.toUInt64).toInt64) &&& (3 : Int64)).toInt32) % (3 : Int32)))]))
    refine Run.go (fun _ k => XS.iconst X6.here hx rfl (hb hby d1_67) k) ?_
    show Run p e below s 0 0 (Q_rm1_0 Z q1 q2 q3 h0 n0) (T6.setTop (mkF m 68 #[.val (.long q1), .second, .val (.long q2), .second, .val (.long q3), .second, .val (.int (0 : Int32)), .val (.int (0 : Int32)), .val (.int ((((q3.toUInt64 >>> ((40 : Int32) &&& 0x3f).toInt64.toUInt64).toInt64) &&& (3 : Int64)).toInt32)), .val (.int (((((q3.toUInt64 >>> ((40 : Int32) &&& 0x3f).toInt64.toUInt64).toInt64) &&& (3 : Int64)).toInt32) % (3 : Int32))), .val (.int w5), .val (.int (0 : Int32))] [(.int (2 : Int32)), (.int (((((q3.toUInt64 >>> ((40 : Int32) &&& 0x3f).toInt64.toUInt64).toInt64) &&& (3 : Int64)).toInt32) % (3 : Int32)))]))
    have J7 : ∀ (w8 : Int32) (hw8 : w8 = (if ((((((q3.toUInt64 >>> ((40 : Int32) &&& 0x3f).toInt64.toUInt64).toInt64) &&& (3 : Int64)).toInt32) % (3 : Int32)) < (2 : Int32)) then (0 : Int32) else ((((q2.toUInt64 >>> ((0 : Int32) &&& 0x3f).toInt64.toUInt64).toInt64) &&& (255 : Int64)).toInt32))) (T9 : State) (L9 : List Loc) (X9 : Stand p l e ({ frames := 0, cells := 0, slots := 0, locals := 0 } : Room) s m #[(.long q1), (.long q2), (.long q3), (.int (0 : Int32)), (.int (0 : Int32))] below meth c T9 L9 0 0) (e9 : T9.heap = h0) (N9 : Fr n0 L9), Run p e below s 0 0 (Q_rm1_0 Z q1 q2 q3 h0 n0) (T9.setTop (mkF m 85 #[.val (.long q1), .second, .val (.long q2), .second, .val (.long q3), .second, .val (.int (0 : Int32)), .val (.int (0 : Int32)), .val (.int ((((q3.toUInt64 >>> ((40 : Int32) &&& 0x3f).toInt64.toUInt64).toInt64) &&& (3 : Int64)).toInt32)), .val (.int (((((q3.toUInt64 >>> ((40 : Int32) &&& 0x3f).toInt64.toUInt64).toInt64) &&& (3 : Int64)).toInt32) % (3 : Int32))), .val (.int w5), .val (.int w8)] [])) := by
      intro w8 hw8 T9 L9 X9 e9 N9
      show Run p e below s 0 0 (Q_rm1_0 Z q1 q2 q3 h0 n0) (T9.setTop (mkF m 85 #[.val (.long q1), .second, .val (.long q2), .second, .val (.long q3), .second, .val (.int (0 : Int32)), .val (.int (0 : Int32)), .val (.int ((((q3.toUInt64 >>> ((40 : Int32) &&& 0x3f).toInt64.toUInt64).toInt64) &&& (3 : Int64)).toInt32)), .val (.int (((((q3.toUInt64 >>> ((40 : Int32) &&& 0x3f).toInt64.toUInt64).toInt64) &&& (3 : Int64)).toInt32) % (3 : Int32))), .val (.int w5), .val (.int w8)] []))
      refine Run.go (fun _ k => XS.iload X9.here hx rfl (hb hby d1_85) rfl  k) ?_
      show Run p e below s 0 0 (Q_rm1_0 Z q1 q2 q3 h0 n0) (T9.setTop (mkF m 87 #[.val (.long q1), .second, .val (.long q2), .second, .val (.long q3), .second, .val (.int (0 : Int32)), .val (.int (0 : Int32)), .val (.int ((((q3.toUInt64 >>> ((40 : Int32) &&& 0x3f).toInt64.toUInt64).toInt64) &&& (3 : Int64)).toInt32)), .val (.int (((((q3.toUInt64 >>> ((40 : Int32) &&& 0x3f).toInt64.toUInt64).toInt64) &&& (3 : Int64)).toInt32) % (3 : Int32))), .val (.int w5), .val (.int w8)] [(.int (((((q3.toUInt64 >>> ((40 : Int32) &&& 0x3f).toInt64.toUInt64).toInt64) &&& (3 : Int64)).toInt32) % (3 : Int32)))]))
      refine Run.go (fun _ k => XS.bipush X9.here hx rfl (hb hby d1_87) k) ?_
      show Run p e below s 0 0 (Q_rm1_0 Z q1 q2 q3 h0 n0) (T9.setTop (mkF m 89 #[.val (.long q1), .second, .val (.long q2), .second, .val (.long q3), .second, .val (.int (0 : Int32)), .val (.int (0 : Int32)), .val (.int ((((q3.toUInt64 >>> ((40 : Int32) &&& 0x3f).toInt64.toUInt64).toInt64) &&& (3 : Int64)).toInt32)), .val (.int (((((q3.toUInt64 >>> ((40 : Int32) &&& 0x3f).toInt64.toUInt64).toInt64) &&& (3 : Int64)).toInt32) % (3 : Int32))), .val (.int w5), .val (.int w8)] [(.int (16 : Int32)), (.int (((((q3.toUInt64 >>> ((40 : Int32) &&& 0x3f).toInt64.toUInt64).toInt64) &&& (3 : Int64)).toInt32) % (3 : Int32)))]))
      refine Run.go (fun _ k => XS.ishl X9.here hx rfl (hb hby d1_89) rfl k) ?_
      show Run p e below s 0 0 (Q_rm1_0 Z q1 q2 q3 h0 n0) (T9.setTop (mkF m 90 #[.val (.long q1), .second, .val (.long q2), .second, .val (.long q3), .second, .val (.int (0 : Int32)), .val (.int (0 : Int32)), .val (.int ((((q3.toUInt64 >>> ((40 : Int32) &&& 0x3f).toInt64.toUInt64).toInt64) &&& (3 : Int64)).toInt32)), .val (.int (((((q3.toUInt64 >>> ((40 : Int32) &&& 0x3f).toInt64.toUInt64).toInt64) &&& (3 : Int64)).toInt32) % (3 : Int32))), .val (.int w5), .val (.int w8)] [(.int ((((((q3.toUInt64 >>> ((40 : Int32) &&& 0x3f).toInt64.toUInt64).toInt64) &&& (3 : Int64)).toInt32) % (3 : Int32)) <<< ((16 : Int32) &&& 31)))]))
      refine Run.go (fun _ k => XS.iload X9.here hx rfl (hb hby d1_90) rfl  k) ?_
      show Run p e below s 0 0 (Q_rm1_0 Z q1 q2 q3 h0 n0) (T9.setTop (mkF m 92 #[.val (.long q1), .second, .val (.long q2), .second, .val (.long q3), .second, .val (.int (0 : Int32)), .val (.int (0 : Int32)), .val (.int ((((q3.toUInt64 >>> ((40 : Int32) &&& 0x3f).toInt64.toUInt64).toInt64) &&& (3 : Int64)).toInt32)), .val (.int (((((q3.toUInt64 >>> ((40 : Int32) &&& 0x3f).toInt64.toUInt64).toInt64) &&& (3 : Int64)).toInt32) % (3 : Int32))), .val (.int w5), .val (.int w8)] [(.int w5), (.int ((((((q3.toUInt64 >>> ((40 : Int32) &&& 0x3f).toInt64.toUInt64).toInt64) &&& (3 : Int64)).toInt32) % (3 : Int32)) <<< ((16 : Int32) &&& 31)))]))
      refine Run.go (fun _ k => XS.bipush X9.here hx rfl (hb hby d1_92) k) ?_
      show Run p e below s 0 0 (Q_rm1_0 Z q1 q2 q3 h0 n0) (T9.setTop (mkF m 94 #[.val (.long q1), .second, .val (.long q2), .second, .val (.long q3), .second, .val (.int (0 : Int32)), .val (.int (0 : Int32)), .val (.int ((((q3.toUInt64 >>> ((40 : Int32) &&& 0x3f).toInt64.toUInt64).toInt64) &&& (3 : Int64)).toInt32)), .val (.int (((((q3.toUInt64 >>> ((40 : Int32) &&& 0x3f).toInt64.toUInt64).toInt64) &&& (3 : Int64)).toInt32) % (3 : Int32))), .val (.int w5), .val (.int w8)] [(.int (8 : Int32)), (.int w5), (.int ((((((q3.toUInt64 >>> ((40 : Int32) &&& 0x3f).toInt64.toUInt64).toInt64) &&& (3 : Int64)).toInt32) % (3 : Int32)) <<< ((16 : Int32) &&& 31)))]))
      refine Run.go (fun _ k => XS.ishl X9.here hx rfl (hb hby d1_94) rfl k) ?_
      show Run p e below s 0 0 (Q_rm1_0 Z q1 q2 q3 h0 n0) (T9.setTop (mkF m 95 #[.val (.long q1), .second, .val (.long q2), .second, .val (.long q3), .second, .val (.int (0 : Int32)), .val (.int (0 : Int32)), .val (.int ((((q3.toUInt64 >>> ((40 : Int32) &&& 0x3f).toInt64.toUInt64).toInt64) &&& (3 : Int64)).toInt32)), .val (.int (((((q3.toUInt64 >>> ((40 : Int32) &&& 0x3f).toInt64.toUInt64).toInt64) &&& (3 : Int64)).toInt32) % (3 : Int32))), .val (.int w5), .val (.int w8)] [(.int (w5 <<< ((8 : Int32) &&& 31))), (.int ((((((q3.toUInt64 >>> ((40 : Int32) &&& 0x3f).toInt64.toUInt64).toInt64) &&& (3 : Int64)).toInt32) % (3 : Int32)) <<< ((16 : Int32) &&& 31)))]))
      refine Run.go (fun _ k => XS.ior X9.here hx rfl (hb hby d1_95) rfl k) ?_
      show Run p e below s 0 0 (Q_rm1_0 Z q1 q2 q3 h0 n0) (T9.setTop (mkF m 96 #[.val (.long q1), .second, .val (.long q2), .second, .val (.long q3), .second, .val (.int (0 : Int32)), .val (.int (0 : Int32)), .val (.int ((((q3.toUInt64 >>> ((40 : Int32) &&& 0x3f).toInt64.toUInt64).toInt64) &&& (3 : Int64)).toInt32)), .val (.int (((((q3.toUInt64 >>> ((40 : Int32) &&& 0x3f).toInt64.toUInt64).toInt64) &&& (3 : Int64)).toInt32) % (3 : Int32))), .val (.int w5), .val (.int w8)] [(.int (((((((q3.toUInt64 >>> ((40 : Int32) &&& 0x3f).toInt64.toUInt64).toInt64) &&& (3 : Int64)).toInt32) % (3 : Int32)) <<< ((16 : Int32) &&& 31)) ||| (w5 <<< ((8 : Int32) &&& 31))))]))
      refine Run.go (fun _ k => XS.iload X9.here hx rfl (hb hby d1_96) rfl  k) ?_
      show Run p e below s 0 0 (Q_rm1_0 Z q1 q2 q3 h0 n0) (T9.setTop (mkF m 98 #[.val (.long q1), .second, .val (.long q2), .second, .val (.long q3), .second, .val (.int (0 : Int32)), .val (.int (0 : Int32)), .val (.int ((((q3.toUInt64 >>> ((40 : Int32) &&& 0x3f).toInt64.toUInt64).toInt64) &&& (3 : Int64)).toInt32)), .val (.int (((((q3.toUInt64 >>> ((40 : Int32) &&& 0x3f).toInt64.toUInt64).toInt64) &&& (3 : Int64)).toInt32) % (3 : Int32))), .val (.int w5), .val (.int w8)] [(.int w8), (.int (((((((q3.toUInt64 >>> ((40 : Int32) &&& 0x3f).toInt64.toUInt64).toInt64) &&& (3 : Int64)).toInt32) % (3 : Int32)) <<< ((16 : Int32) &&& 31)) ||| (w5 <<< ((8 : Int32) &&& 31))))]))
      refine Run.go (fun _ k => XS.ior X9.here hx rfl (hb hby d1_98) rfl k) ?_
      show Run p e below s 0 0 (Q_rm1_0 Z q1 q2 q3 h0 n0) (T9.setTop (mkF m 99 #[.val (.long q1), .second, .val (.long q2), .second, .val (.long q3), .second, .val (.int (0 : Int32)), .val (.int (0 : Int32)), .val (.int ((((q3.toUInt64 >>> ((40 : Int32) &&& 0x3f).toInt64.toUInt64).toInt64) &&& (3 : Int64)).toInt32)), .val (.int (((((q3.toUInt64 >>> ((40 : Int32) &&& 0x3f).toInt64.toUInt64).toInt64) &&& (3 : Int64)).toInt32) % (3 : Int32))), .val (.int w5), .val (.int w8)] [(.int ((((((((q3.toUInt64 >>> ((40 : Int32) &&& 0x3f).toInt64.toUInt64).toInt64) &&& (3 : Int64)).toInt32) % (3 : Int32)) <<< ((16 : Int32) &&& 31)) ||| (w5 <<< ((8 : Int32) &&& 31))) ||| w8))]))
      refine Run.retI X9 hx Bd.returns Bd.notSynchronized (hb hby d1_99) (by decide) (by decide) ?_
      show Q_rm1_0 Z q1 q2 q3 h0 n0 _ T9.heap _
      exact ⟨congrArg some (congrArg Value.int (show ((((((((q3.toUInt64 >>> ((40 : Int32) &&& 0x3f).toInt64.toUInt64).toInt64) &&& (3 : Int64)).toInt32) % (3 : Int32)) <<< ((16 : Int32) &&& 31)) ||| (w5 <<< ((8 : Int32) &&& 31))) ||| w8) = (F_rm1_0 q1 q2 q3) from (by subst hw8; subst hw5; unfold F_rm1_0; rfl))), N9, e9⟩
    by_cases hc10 : ((((((q3.toUInt64 >>> ((40 : Int32) &&& 0x3f).toInt64.toUInt64).toInt64) &&& (3 : Int64)).toInt32) % (3 : Int32)) < (2 : Int32))
    · refine Run.go (fun _ k => XS.icmpYes X6.here hx rfl (pc0 := 68) (pc' := 85) rfl (hb hby d1_68) rfl (tlt hc10).1 (by decide) (by decide) k) ?_
      show Run p e below s 0 0 (Q_rm1_0 Z q1 q2 q3 h0 n0) (T6.setTop (mkF m 85 #[.val (.long q1), .second, .val (.long q2), .second, .val (.long q3), .second, .val (.int (0 : Int32)), .val (.int (0 : Int32)), .val (.int ((((q3.toUInt64 >>> ((40 : Int32) &&& 0x3f).toInt64.toUInt64).toInt64) &&& (3 : Int64)).toInt32)), .val (.int (((((q3.toUInt64 >>> ((40 : Int32) &&& 0x3f).toInt64.toUInt64).toInt64) &&& (3 : Int64)).toInt32) % (3 : Int32))), .val (.int w5), .val (.int (0 : Int32))] []))
      exact J7 _ (by rw [if_pos hc10]) _ _ X6 e6 N6
    · refine Run.go (fun _ k => XS.icmpNo X6.here hx rfl (hb hby d1_68) rfl (flt hc10).1 k) ?_
      show Run p e below s 0 0 (Q_rm1_0 Z q1 q2 q3 h0 n0) (T6.setTop (mkF m 71 #[.val (.long q1), .second, .val (.long q2), .second, .val (.long q3), .second, .val (.int (0 : Int32)), .val (.int (0 : Int32)), .val (.int ((((q3.toUInt64 >>> ((40 : Int32) &&& 0x3f).toInt64.toUInt64).toInt64) &&& (3 : Int64)).toInt32)), .val (.int (((((q3.toUInt64 >>> ((40 : Int32) &&& 0x3f).toInt64.toUInt64).toInt64) &&& (3 : Int64)).toInt32) % (3 : Int32))), .val (.int w5), .val (.int (0 : Int32))] []))
      refine Run.go (fun _ k => XS.lloadN X6.here hx rfl (hb hby d1_71) rfl  k) ?_
      show Run p e below s 0 0 (Q_rm1_0 Z q1 q2 q3 h0 n0) (T6.setTop (mkF m 72 #[.val (.long q1), .second, .val (.long q2), .second, .val (.long q3), .second, .val (.int (0 : Int32)), .val (.int (0 : Int32)), .val (.int ((((q3.toUInt64 >>> ((40 : Int32) &&& 0x3f).toInt64.toUInt64).toInt64) &&& (3 : Int64)).toInt32)), .val (.int (((((q3.toUInt64 >>> ((40 : Int32) &&& 0x3f).toInt64.toUInt64).toInt64) &&& (3 : Int64)).toInt32) % (3 : Int32))), .val (.int w5), .val (.int (0 : Int32))] [(.long q2)]))
      refine Run.go (fun _ k => XS.bipush X6.here hx rfl (hb hby d1_72) k) ?_
      show Run p e below s 0 0 (Q_rm1_0 Z q1 q2 q3 h0 n0) (T6.setTop (mkF m 74 #[.val (.long q1), .second, .val (.long q2), .second, .val (.long q3), .second, .val (.int (0 : Int32)), .val (.int (0 : Int32)), .val (.int ((((q3.toUInt64 >>> ((40 : Int32) &&& 0x3f).toInt64.toUInt64).toInt64) &&& (3 : Int64)).toInt32)), .val (.int (((((q3.toUInt64 >>> ((40 : Int32) &&& 0x3f).toInt64.toUInt64).toInt64) &&& (3 : Int64)).toInt32) % (3 : Int32))), .val (.int w5), .val (.int (0 : Int32))] [(.int (8 : Int32)), (.long q2)]))
      refine Run.go (fun _ k => XS.iload X6.here hx rfl (hb hby d1_74) rfl  k) ?_
      show Run p e below s 0 0 (Q_rm1_0 Z q1 q2 q3 h0 n0) (T6.setTop (mkF m 76 #[.val (.long q1), .second, .val (.long q2), .second, .val (.long q3), .second, .val (.int (0 : Int32)), .val (.int (0 : Int32)), .val (.int ((((q3.toUInt64 >>> ((40 : Int32) &&& 0x3f).toInt64.toUInt64).toInt64) &&& (3 : Int64)).toInt32)), .val (.int (((((q3.toUInt64 >>> ((40 : Int32) &&& 0x3f).toInt64.toUInt64).toInt64) &&& (3 : Int64)).toInt32) % (3 : Int32))), .val (.int w5), .val (.int (0 : Int32))] [(.int (0 : Int32)), (.int (8 : Int32)), (.long q2)]))
      refine Run.go (fun _ k => XS.imul X6.here hx rfl (hb hby d1_76) rfl k) ?_
      show Run p e below s 0 0 (Q_rm1_0 Z q1 q2 q3 h0 n0) (T6.setTop (mkF m 77 #[.val (.long q1), .second, .val (.long q2), .second, .val (.long q3), .second, .val (.int (0 : Int32)), .val (.int (0 : Int32)), .val (.int ((((q3.toUInt64 >>> ((40 : Int32) &&& 0x3f).toInt64.toUInt64).toInt64) &&& (3 : Int64)).toInt32)), .val (.int (((((q3.toUInt64 >>> ((40 : Int32) &&& 0x3f).toInt64.toUInt64).toInt64) &&& (3 : Int64)).toInt32) % (3 : Int32))), .val (.int w5), .val (.int (0 : Int32))] [(.int (0 : Int32)), (.long q2)]))
      refine Run.go (fun _ k => XS.lushr X6.here hx rfl (hb hby d1_77) rfl k) ?_
      show Run p e below s 0 0 (Q_rm1_0 Z q1 q2 q3 h0 n0) (T6.setTop (mkF m 78 #[.val (.long q1), .second, .val (.long q2), .second, .val (.long q3), .second, .val (.int (0 : Int32)), .val (.int (0 : Int32)), .val (.int ((((q3.toUInt64 >>> ((40 : Int32) &&& 0x3f).toInt64.toUInt64).toInt64) &&& (3 : Int64)).toInt32)), .val (.int (((((q3.toUInt64 >>> ((40 : Int32) &&& 0x3f).toInt64.toUInt64).toInt64) &&& (3 : Int64)).toInt32) % (3 : Int32))), .val (.int w5), .val (.int (0 : Int32))] [(.long ((q2.toUInt64 >>> ((0 : Int32) &&& 0x3f).toInt64.toUInt64).toInt64))]))
      refine Run.go (fun _ k => X6.ldc2Long hx hown (mvT hZ (hw _ (List.mem_of_getElem? (i := 5) rfl))) (g := (mkF m 78 #[.val (.long q1), .second, .val (.long q2), .second, .val (.long q3), .second, .val (.int (0 : Int32)), .val (.int (0 : Int32)), .val (.int ((((q3.toUInt64 >>> ((40 : Int32) &&& 0x3f).toInt64.toUInt64).toInt64) &&& (3 : Int64)).toInt32)), .val (.int (((((q3.toUInt64 >>> ((40 : Int32) &&& 0x3f).toInt64.toUInt64).toInt64) &&& (3 : Int64)).toInt32) % (3 : Int32))), .val (.int w5), .val (.int (0 : Int32))] [(.long ((q2.toUInt64 >>> ((0 : Int32) &&& 0x3f).toInt64.toUInt64).toInt64))])) rfl (hb hby d1_78) _ k) ?_
      show Run p e below s 0 0 (Q_rm1_0 Z q1 q2 q3 h0 n0) (T6.setTop (mkF m 81 #[.val (.long q1), .second, .val (.long q2), .second, .val (.long q3), .second, .val (.int (0 : Int32)), .val (.int (0 : Int32)), .val (.int ((((q3.toUInt64 >>> ((40 : Int32) &&& 0x3f).toInt64.toUInt64).toInt64) &&& (3 : Int64)).toInt32)), .val (.int (((((q3.toUInt64 >>> ((40 : Int32) &&& 0x3f).toInt64.toUInt64).toInt64) &&& (3 : Int64)).toInt32) % (3 : Int32))), .val (.int w5), .val (.int (0 : Int32))] [(.long (255 : Int64)), (.long ((q2.toUInt64 >>> ((0 : Int32) &&& 0x3f).toInt64.toUInt64).toInt64))]))
      refine Run.go (fun _ k => XS.land X6.here hx rfl (hb hby d1_81) rfl k) ?_
      show Run p e below s 0 0 (Q_rm1_0 Z q1 q2 q3 h0 n0) (T6.setTop (mkF m 82 #[.val (.long q1), .second, .val (.long q2), .second, .val (.long q3), .second, .val (.int (0 : Int32)), .val (.int (0 : Int32)), .val (.int ((((q3.toUInt64 >>> ((40 : Int32) &&& 0x3f).toInt64.toUInt64).toInt64) &&& (3 : Int64)).toInt32)), .val (.int (((((q3.toUInt64 >>> ((40 : Int32) &&& 0x3f).toInt64.toUInt64).toInt64) &&& (3 : Int64)).toInt32) % (3 : Int32))), .val (.int w5), .val (.int (0 : Int32))] [(.long (((q2.toUInt64 >>> ((0 : Int32) &&& 0x3f).toInt64.toUInt64).toInt64) &&& (255 : Int64)))]))
      refine Run.go (fun _ k => XS.l2i X6.here hx rfl (hb hby d1_82) rfl k) ?_
      show Run p e below s 0 0 (Q_rm1_0 Z q1 q2 q3 h0 n0) (T6.setTop (mkF m 83 #[.val (.long q1), .second, .val (.long q2), .second, .val (.long q3), .second, .val (.int (0 : Int32)), .val (.int (0 : Int32)), .val (.int ((((q3.toUInt64 >>> ((40 : Int32) &&& 0x3f).toInt64.toUInt64).toInt64) &&& (3 : Int64)).toInt32)), .val (.int (((((q3.toUInt64 >>> ((40 : Int32) &&& 0x3f).toInt64.toUInt64).toInt64) &&& (3 : Int64)).toInt32) % (3 : Int32))), .val (.int w5), .val (.int (0 : Int32))] [(.int ((((q2.toUInt64 >>> ((0 : Int32) &&& 0x3f).toInt64.toUInt64).toInt64) &&& (255 : Int64)).toInt32))]))
      refine Run.go (fun _ k => XS.istore X6.here hx rfl (hb hby d1_83) rfl (l' := #[.val (.long q1), .second, .val (.long q2), .second, .val (.long q3), .second, .val (.int (0 : Int32)), .val (.int (0 : Int32)), .val (.int ((((q3.toUInt64 >>> ((40 : Int32) &&& 0x3f).toInt64.toUInt64).toInt64) &&& (3 : Int64)).toInt32)), .val (.int (((((q3.toUInt64 >>> ((40 : Int32) &&& 0x3f).toInt64.toUInt64).toInt64) &&& (3 : Int64)).toInt32) % (3 : Int32))), .val (.int w5), .val (.int ((((q2.toUInt64 >>> ((0 : Int32) &&& 0x3f).toInt64.toUInt64).toInt64) &&& (255 : Int64)).toInt32))]) rfl k) ?_
      show Run p e below s 0 0 (Q_rm1_0 Z q1 q2 q3 h0 n0) (T6.setTop (mkF m 85 #[.val (.long q1), .second, .val (.long q2), .second, .val (.long q3), .second, .val (.int (0 : Int32)), .val (.int (0 : Int32)), .val (.int ((((q3.toUInt64 >>> ((40 : Int32) &&& 0x3f).toInt64.toUInt64).toInt64) &&& (3 : Int64)).toInt32)), .val (.int (((((q3.toUInt64 >>> ((40 : Int32) &&& 0x3f).toInt64.toUInt64).toInt64) &&& (3 : Int64)).toInt32) % (3 : Int32))), .val (.int w5), .val (.int ((((q2.toUInt64 >>> ((0 : Int32) &&& 0x3f).toInt64.toUInt64).toInt64) &&& (255 : Int64)).toInt32))] []))
      exact J7 _ (by rw [if_neg hc10]) _ _ X6 e6 N6
  by_cases hc11 : ((((((q3.toUInt64 >>> ((40 : Int32) &&& 0x3f).toInt64.toUInt64).toInt64) &&& (3 : Int64)).toInt32) % (3 : Int32)) < (1 : Int32))
  · refine Run.go (fun _ k => XS.icmpYes X0.here hx rfl (pc0 := 48) (pc' := 65) rfl (hb hby d1_48) rfl (tlt hc11).1 (by decide) (by decide) k) ?_
    show Run p e below s 0 0 (Q_rm1_0 Z q1 q2 q3 h0 n0) (s₁.setTop (mkF m 65 #[.val (.long q1), .second, .val (.long q2), .second, .val (.long q3), .second, .val (.int (0 : Int32)), .val (.int (0 : Int32)), .val (.int ((((q3.toUInt64 >>> ((40 : Int32) &&& 0x3f).toInt64.toUInt64).toInt64) &&& (3 : Int64)).toInt32)), .val (.int (((((q3.toUInt64 >>> ((40 : Int32) &&& 0x3f).toInt64.toUInt64).toInt64) &&& (3 : Int64)).toInt32) % (3 : Int32))), .val (.int (0 : Int32)), .val (.int (0 : Int32))] []))
    exact J4 _ (by rw [if_pos hc11]) _ _ X0 e0 N0
  · refine Run.go (fun _ k => XS.icmpNo X0.here hx rfl (hb hby d1_48) rfl (flt hc11).1 k) ?_
    show Run p e below s 0 0 (Q_rm1_0 Z q1 q2 q3 h0 n0) (s₁.setTop (mkF m 51 #[.val (.long q1), .second, .val (.long q2), .second, .val (.long q3), .second, .val (.int (0 : Int32)), .val (.int (0 : Int32)), .val (.int ((((q3.toUInt64 >>> ((40 : Int32) &&& 0x3f).toInt64.toUInt64).toInt64) &&& (3 : Int64)).toInt32)), .val (.int (((((q3.toUInt64 >>> ((40 : Int32) &&& 0x3f).toInt64.toUInt64).toInt64) &&& (3 : Int64)).toInt32) % (3 : Int32))), .val (.int (0 : Int32)), .val (.int (0 : Int32))] []))
    refine Run.go (fun _ k => XS.lloadN X0.here hx rfl (hb hby d1_51) rfl  k) ?_
    show Run p e below s 0 0 (Q_rm1_0 Z q1 q2 q3 h0 n0) (s₁.setTop (mkF m 52 #[.val (.long q1), .second, .val (.long q2), .second, .val (.long q3), .second, .val (.int (0 : Int32)), .val (.int (0 : Int32)), .val (.int ((((q3.toUInt64 >>> ((40 : Int32) &&& 0x3f).toInt64.toUInt64).toInt64) &&& (3 : Int64)).toInt32)), .val (.int (((((q3.toUInt64 >>> ((40 : Int32) &&& 0x3f).toInt64.toUInt64).toInt64) &&& (3 : Int64)).toInt32) % (3 : Int32))), .val (.int (0 : Int32)), .val (.int (0 : Int32))] [(.long q1)]))
    refine Run.go (fun _ k => XS.bipush X0.here hx rfl (hb hby d1_52) k) ?_
    show Run p e below s 0 0 (Q_rm1_0 Z q1 q2 q3 h0 n0) (s₁.setTop (mkF m 54 #[.val (.long q1), .second, .val (.long q2), .second, .val (.long q3), .second, .val (.int (0 : Int32)), .val (.int (0 : Int32)), .val (.int ((((q3.toUInt64 >>> ((40 : Int32) &&& 0x3f).toInt64.toUInt64).toInt64) &&& (3 : Int64)).toInt32)), .val (.int (((((q3.toUInt64 >>> ((40 : Int32) &&& 0x3f).toInt64.toUInt64).toInt64) &&& (3 : Int64)).toInt32) % (3 : Int32))), .val (.int (0 : Int32)), .val (.int (0 : Int32))] [(.int (8 : Int32)), (.long q1)]))
    refine Run.go (fun _ k => XS.iload X0.here hx rfl (hb hby d1_54) rfl  k) ?_
    show Run p e below s 0 0 (Q_rm1_0 Z q1 q2 q3 h0 n0) (s₁.setTop (mkF m 56 #[.val (.long q1), .second, .val (.long q2), .second, .val (.long q3), .second, .val (.int (0 : Int32)), .val (.int (0 : Int32)), .val (.int ((((q3.toUInt64 >>> ((40 : Int32) &&& 0x3f).toInt64.toUInt64).toInt64) &&& (3 : Int64)).toInt32)), .val (.int (((((q3.toUInt64 >>> ((40 : Int32) &&& 0x3f).toInt64.toUInt64).toInt64) &&& (3 : Int64)).toInt32) % (3 : Int32))), .val (.int (0 : Int32)), .val (.int (0 : Int32))] [(.int (0 : Int32)), (.int (8 : Int32)), (.long q1)]))
    refine Run.go (fun _ k => XS.imul X0.here hx rfl (hb hby d1_56) rfl k) ?_
    show Run p e below s 0 0 (Q_rm1_0 Z q1 q2 q3 h0 n0) (s₁.setTop (mkF m 57 #[.val (.long q1), .second, .val (.long q2), .second, .val (.long q3), .second, .val (.int (0 : Int32)), .val (.int (0 : Int32)), .val (.int ((((q3.toUInt64 >>> ((40 : Int32) &&& 0x3f).toInt64.toUInt64).toInt64) &&& (3 : Int64)).toInt32)), .val (.int (((((q3.toUInt64 >>> ((40 : Int32) &&& 0x3f).toInt64.toUInt64).toInt64) &&& (3 : Int64)).toInt32) % (3 : Int32))), .val (.int (0 : Int32)), .val (.int (0 : Int32))] [(.int (0 : Int32)), (.long q1)]))
    refine Run.go (fun _ k => XS.lushr X0.here hx rfl (hb hby d1_57) rfl k) ?_
    show Run p e below s 0 0 (Q_rm1_0 Z q1 q2 q3 h0 n0) (s₁.setTop (mkF m 58 #[.val (.long q1), .second, .val (.long q2), .second, .val (.long q3), .second, .val (.int (0 : Int32)), .val (.int (0 : Int32)), .val (.int ((((q3.toUInt64 >>> ((40 : Int32) &&& 0x3f).toInt64.toUInt64).toInt64) &&& (3 : Int64)).toInt32)), .val (.int (((((q3.toUInt64 >>> ((40 : Int32) &&& 0x3f).toInt64.toUInt64).toInt64) &&& (3 : Int64)).toInt32) % (3 : Int32))), .val (.int (0 : Int32)), .val (.int (0 : Int32))] [(.long ((q1.toUInt64 >>> ((0 : Int32) &&& 0x3f).toInt64.toUInt64).toInt64))]))
    refine Run.go (fun _ k => X0.ldc2Long hx hown (mvT hZ (hw _ (List.mem_of_getElem? (i := 5) rfl))) (g := (mkF m 58 #[.val (.long q1), .second, .val (.long q2), .second, .val (.long q3), .second, .val (.int (0 : Int32)), .val (.int (0 : Int32)), .val (.int ((((q3.toUInt64 >>> ((40 : Int32) &&& 0x3f).toInt64.toUInt64).toInt64) &&& (3 : Int64)).toInt32)), .val (.int (((((q3.toUInt64 >>> ((40 : Int32) &&& 0x3f).toInt64.toUInt64).toInt64) &&& (3 : Int64)).toInt32) % (3 : Int32))), .val (.int (0 : Int32)), .val (.int (0 : Int32))] [(.long ((q1.toUInt64 >>> ((0 : Int32) &&& 0x3f).toInt64.toUInt64).toInt64))])) rfl (hb hby d1_58) _ k) ?_
    show Run p e below s 0 0 (Q_rm1_0 Z q1 q2 q3 h0 n0) (s₁.setTop (mkF m 61 #[.val (.long q1), .second, .val (.long q2), .second, .val (.long q3), .second, .val (.int (0 : Int32)), .val (.int (0 : Int32)), .val (.int ((((q3.toUInt64 >>> ((40 : Int32) &&& 0x3f).toInt64.toUInt64).toInt64) &&& (3 : Int64)).toInt32)), .val (.int (((((q3.toUInt64 >>> ((40 : Int32) &&& 0x3f).toInt64.toUInt64).toInt64) &&& (3 : Int64)).toInt32) % (3 : Int32))), .val (.int (0 : Int32)), .val (.int (0 : Int32))] [(.long (255 : Int64)), (.long ((q1.toUInt64 >>> ((0 : Int32) &&& 0x3f).toInt64.toUInt64).toInt64))]))
    refine Run.go (fun _ k => XS.land X0.here hx rfl (hb hby d1_61) rfl k) ?_
    show Run p e below s 0 0 (Q_rm1_0 Z q1 q2 q3 h0 n0) (s₁.setTop (mkF m 62 #[.val (.long q1), .second, .val (.long q2), .second, .val (.long q3), .second, .val (.int (0 : Int32)), .val (.int (0 : Int32)), .val (.int ((((q3.toUInt64 >>> ((40 : Int32) &&& 0x3f).toInt64.toUInt64).toInt64) &&& (3 : Int64)).toInt32)), .val (.int (((((q3.toUInt64 >>> ((40 : Int32) &&& 0x3f).toInt64.toUInt64).toInt64) &&& (3 : Int64)).toInt32) % (3 : Int32))), .val (.int (0 : Int32)), .val (.int (0 : Int32))] [(.long (((q1.toUInt64 >>> ((0 : Int32) &&& 0x3f).toInt64.toUInt64).toInt64) &&& (255 : Int64)))]))
    refine Run.go (fun _ k => XS.l2i X0.here hx rfl (hb hby d1_62) rfl k) ?_
    show Run p e below s 0 0 (Q_rm1_0 Z q1 q2 q3 h0 n0) (s₁.setTop (mkF m 63 #[.val (.long q1), .second, .val (.long q2), .second, .val (.long q3), .second, .val (.int (0 : Int32)), .val (.int (0 : Int32)), .val (.int ((((q3.toUInt64 >>> ((40 : Int32) &&& 0x3f).toInt64.toUInt64).toInt64) &&& (3 : Int64)).toInt32)), .val (.int (((((q3.toUInt64 >>> ((40 : Int32) &&& 0x3f).toInt64.toUInt64).toInt64) &&& (3 : Int64)).toInt32) % (3 : Int32))), .val (.int (0 : Int32)), .val (.int (0 : Int32))] [(.int ((((q1.toUInt64 >>> ((0 : Int32) &&& 0x3f).toInt64.toUInt64).toInt64) &&& (255 : Int64)).toInt32))]))
    refine Run.go (fun _ k => XS.istore X0.here hx rfl (hb hby d1_63) rfl (l' := #[.val (.long q1), .second, .val (.long q2), .second, .val (.long q3), .second, .val (.int (0 : Int32)), .val (.int (0 : Int32)), .val (.int ((((q3.toUInt64 >>> ((40 : Int32) &&& 0x3f).toInt64.toUInt64).toInt64) &&& (3 : Int64)).toInt32)), .val (.int (((((q3.toUInt64 >>> ((40 : Int32) &&& 0x3f).toInt64.toUInt64).toInt64) &&& (3 : Int64)).toInt32) % (3 : Int32))), .val (.int ((((q1.toUInt64 >>> ((0 : Int32) &&& 0x3f).toInt64.toUInt64).toInt64) &&& (255 : Int64)).toInt32)), .val (.int (0 : Int32))]) rfl k) ?_
    show Run p e below s 0 0 (Q_rm1_0 Z q1 q2 q3 h0 n0) (s₁.setTop (mkF m 65 #[.val (.long q1), .second, .val (.long q2), .second, .val (.long q3), .second, .val (.int (0 : Int32)), .val (.int (0 : Int32)), .val (.int ((((q3.toUInt64 >>> ((40 : Int32) &&& 0x3f).toInt64.toUInt64).toInt64) &&& (3 : Int64)).toInt32)), .val (.int (((((q3.toUInt64 >>> ((40 : Int32) &&& 0x3f).toInt64.toUInt64).toInt64) &&& (3 : Int64)).toInt32) % (3 : Int32))), .val (.int ((((q1.toUInt64 >>> ((0 : Int32) &&& 0x3f).toInt64.toUInt64).toInt64) &&& (255 : Int64)).toInt32)), .val (.int (0 : Int32))] []))
    exact J4 _ (by rw [if_neg hc11]) _ _ X0 e0 N0
theorem d1_22 : decode method_2_code 22 = .ok (.iconst 1, 1) := by decide +kernel
theorem d1_23 : decode method_2_code 23 = .ok (.iload 8, 2) := by decide +kernel
theorem d1_25 : decode method_2_code 25 = .ok (.iconst 1, 1) := by decide +kernel
theorem d1_26 : decode method_2_code 26 = .ok (.iand, 1) := by decide +kernel
theorem d1_27 : decode method_2_code 27 = .ok (.iadd, 1) := by decide +kernel
theorem d1_28 : decode method_2_code 28 = .ok (.istore 9, 2) := by decide +kernel
theorem d1_30 : decode method_2_code 30 = .ok (.goto 9, 3) := by decide +kernel
def F_rm1_1 (q1 : Int64) (q2 : Int64) (q3 : Int64) : Int32 := let w5 : Int32 := (if (((1 : Int32) + (((((q3.toUInt64 >>> ((42 : Int32) &&& 0x3f).toInt64.toUInt64).toInt64) &&& (3 : Int64)).toInt32) &&& (1 : Int32))) < (1 : Int32)) then (0 : Int32) else ((((q1.toUInt64 >>> ((8 : Int32) &&& 0x3f).toInt64.toUInt64).toInt64) &&& (255 : Int64)).toInt32)); let w8 : Int32 := (if (((1 : Int32) + (((((q3.toUInt64 >>> ((42 : Int32) &&& 0x3f).toInt64.toUInt64).toInt64) &&& (3 : Int64)).toInt32) &&& (1 : Int32))) < (2 : Int32)) then (0 : Int32) else ((((q2.toUInt64 >>> ((8 : Int32) &&& 0x3f).toInt64.toUInt64).toInt64) &&& (255 : Int64)).toInt32)); (((((1 : Int32) + (((((q3.toUInt64 >>> ((42 : Int32) &&& 0x3f).toInt64.toUInt64).toInt64) &&& (3 : Int64)).toInt32) &&& (1 : Int32))) <<< ((16 : Int32) &&& 31)) ||| (w5 <<< ((8 : Int32) &&& 31))) ||| w8)
def Q_rm1_1 (Z : State) (q1 : Int64) (q2 : Int64) (q3 : Int64) (h0 : Heap) (n0 : Nat) (v : Option Value) (h : Heap) (L : List Loc) : Prop := v = some (.int (F_rm1_1 q1 q2 q3)) ∧ Fr n0 L ∧ h = h0
theorem ef_rm1_1 (m : MethodId) (x0 : Int64) (x1 : Int64) (x2 : Int64) : entryFrame m #[(.long x0), (.long x1), (.long x2), (.int (1 : Int32)), (.int (1 : Int32))] 12 = mkF m 0 #[.val (.long x0), .second, .val (.long x1), .second, .val (.long x2), .second, .val (.int (1 : Int32)), .val (.int (1 : Int32)), .unset, .unset, .unset, .unset] [] := by first | (simp [entryFrame, mkF, argsToLocals, Value.category]; done) | rfl
set_option maxRecDepth 65536 in
set_option maxHeartbeats 40000000 in
theorem rm1_1 (l : Launch) (Z : State) (a0 : Array Value) (hw : ∀ d ∈ tables_1, d.before a0 Z = true) (ws : List Jvm.Cond) (q1 : Int64) (q2 : Int64) (q3 : Int64) (h0 : Heap) (n0 : Nat) (Z0 : n0 ≤ h0.size)  :
    MetFree l (⟨"com/example/subjectory/subjectory/heading/ClassLinkEqualsPinLaw", "spec", "(JJJIZ)I"⟩ : MethodName) (head1 (Jvm.Cond.code (⟨"com/example/subjectory/subjectory/heading/ClassLinkEqualsPinLaw", "spec", "(JJJIZ)I"⟩ : MethodName) method_2_code 12 (some .int) :: ws) ({ frames := 0, cells := 0, slots := 0, locals := 0 } : Room)) (fun a U => a = #[(.long q1), (.long q2), (.long q3), (.int (1 : Int32)), (.int (1 : Int32))] ∧ Z.Warmed39 U.vm ∧ U.heap = h0) (fun _ _ _ _ _ => True) (fun _ U o U' => ∃ v L, o = .returned v ∧ Q_rm1_1 Z q1 q2 q3 h0 n0 v U'.heap L ∧ FrameEnd U o U' L ({ frames := 0, cells := 0, slots := 0, locals := 0 } : Room).cells ({ frames := 0, cells := 0, slots := 0, locals := 0 } : Room).slots) := by
  refine MetFree.of_bodySF (plainFor_of_name pn_2) hisR ?_
  intro p e s m args below meth c s₁ Bd hml0 hP hK
  obtain ⟨rfl, hZ, hh⟩ := hP
  have hx := Bd.exec
  have hby := Bd.bytes
  have hml : c.maxLocals = 12 := hml0
  have hown : s.vm.findClass "com/example/subjectory/subjectory/heading/ClassLinkEqualsPinLaw" = some m.cls := findClass_of_methodNamed Bd.named
  have hnm := (name_of_methodNamed Bd.named Bd.method).1
  have X0 : Stand p l e ({ frames := 0, cells := 0, slots := 0, locals := 0 } : Room) s m #[(.long q1), (.long q2), (.long q3), (.int (1 : Int32)), (.int (1 : Int32))] below meth c s₁ [] 0 0 := Stand.of_body Bd
  have e0 : s₁.heap = h0 := by rw [← hh, Bd.state]; rfl
  have N0 := Fr.nil n0
  show Run p e below s 0 0 (Q_rm1_1 Z q1 q2 q3 h0 n0) (s₁.setTop (entryFrame m #[(.long q1), (.long q2), (.long q3), (.int (1 : Int32)), (.int (1 : Int32))] 12))
  refine Run.go (fun _ k => castTop (ef_rm1_1 m q1 q2 q3) k) ?_
  show Run p e below s 0 0 (Q_rm1_1 Z q1 q2 q3 h0 n0) (s₁.setTop (mkF m 0 #[.val (.long q1), .second, .val (.long q2), .second, .val (.long q3), .second, .val (.int (1 : Int32)), .val (.int (1 : Int32)), .unset, .unset, .unset, .unset] []))
  refine Run.go (fun _ k => XS.lload X0.here hx rfl (hb hby d1_0) rfl  k) ?_
  show Run p e below s 0 0 (Q_rm1_1 Z q1 q2 q3 h0 n0) (s₁.setTop (mkF m 2 #[.val (.long q1), .second, .val (.long q2), .second, .val (.long q3), .second, .val (.int (1 : Int32)), .val (.int (1 : Int32)), .unset, .unset, .unset, .unset] [(.long q3)]))
  refine Run.go (fun _ k => XS.bipush X0.here hx rfl (hb hby d1_2) k) ?_
  show Run p e below s 0 0 (Q_rm1_1 Z q1 q2 q3 h0 n0) (s₁.setTop (mkF m 4 #[.val (.long q1), .second, .val (.long q2), .second, .val (.long q3), .second, .val (.int (1 : Int32)), .val (.int (1 : Int32)), .unset, .unset, .unset, .unset] [(.int (40 : Int32)), (.long q3)]))
  refine Run.go (fun _ k => XS.iconst X0.here hx rfl (hb hby d1_4) k) ?_
  show Run p e below s 0 0 (Q_rm1_1 Z q1 q2 q3 h0 n0) (s₁.setTop (mkF m 5 #[.val (.long q1), .second, .val (.long q2), .second, .val (.long q3), .second, .val (.int (1 : Int32)), .val (.int (1 : Int32)), .unset, .unset, .unset, .unset] [(.int (2 : Int32)), (.int (40 : Int32)), (.long q3)]))
  refine Run.go (fun _ k => XS.iload X0.here hx rfl (hb hby d1_5) rfl  k) ?_
  show Run p e below s 0 0 (Q_rm1_1 Z q1 q2 q3 h0 n0) (s₁.setTop (mkF m 7 #[.val (.long q1), .second, .val (.long q2), .second, .val (.long q3), .second, .val (.int (1 : Int32)), .val (.int (1 : Int32)), .unset, .unset, .unset, .unset] [(.int (1 : Int32)), (.int (2 : Int32)), (.int (40 : Int32)), (.long q3)]))
  refine Run.go (fun _ k => XS.imul X0.here hx rfl (hb hby d1_7) rfl k) ?_
  show Run p e below s 0 0 (Q_rm1_1 Z q1 q2 q3 h0 n0) (s₁.setTop (mkF m 8 #[.val (.long q1), .second, .val (.long q2), .second, .val (.long q3), .second, .val (.int (1 : Int32)), .val (.int (1 : Int32)), .unset, .unset, .unset, .unset] [(.int (2 : Int32)), (.int (40 : Int32)), (.long q3)]))
  refine Run.go (fun _ k => XS.iadd X0.here hx rfl (hb hby d1_8) rfl k) ?_
  show Run p e below s 0 0 (Q_rm1_1 Z q1 q2 q3 h0 n0) (s₁.setTop (mkF m 9 #[.val (.long q1), .second, .val (.long q2), .second, .val (.long q3), .second, .val (.int (1 : Int32)), .val (.int (1 : Int32)), .unset, .unset, .unset, .unset] [(.int (42 : Int32)), (.long q3)]))
  refine Run.go (fun _ k => XS.lushr X0.here hx rfl (hb hby d1_9) rfl k) ?_
  show Run p e below s 0 0 (Q_rm1_1 Z q1 q2 q3 h0 n0) (s₁.setTop (mkF m 10 #[.val (.long q1), .second, .val (.long q2), .second, .val (.long q3), .second, .val (.int (1 : Int32)), .val (.int (1 : Int32)), .unset, .unset, .unset, .unset] [(.long ((q3.toUInt64 >>> ((42 : Int32) &&& 0x3f).toInt64.toUInt64).toInt64))]))
  refine Run.go (fun _ k => X0.ldc2Long hx hown (mvT hZ (hw _ (List.mem_of_getElem? (i := 4) rfl))) (g := (mkF m 10 #[.val (.long q1), .second, .val (.long q2), .second, .val (.long q3), .second, .val (.int (1 : Int32)), .val (.int (1 : Int32)), .unset, .unset, .unset, .unset] [(.long ((q3.toUInt64 >>> ((42 : Int32) &&& 0x3f).toInt64.toUInt64).toInt64))])) rfl (hb hby d1_10) _ k) ?_
  show Run p e below s 0 0 (Q_rm1_1 Z q1 q2 q3 h0 n0) (s₁.setTop (mkF m 13 #[.val (.long q1), .second, .val (.long q2), .second, .val (.long q3), .second, .val (.int (1 : Int32)), .val (.int (1 : Int32)), .unset, .unset, .unset, .unset] [(.long (3 : Int64)), (.long ((q3.toUInt64 >>> ((42 : Int32) &&& 0x3f).toInt64.toUInt64).toInt64))]))
  refine Run.go (fun _ k => XS.land X0.here hx rfl (hb hby d1_13) rfl k) ?_
  show Run p e below s 0 0 (Q_rm1_1 Z q1 q2 q3 h0 n0) (s₁.setTop (mkF m 14 #[.val (.long q1), .second, .val (.long q2), .second, .val (.long q3), .second, .val (.int (1 : Int32)), .val (.int (1 : Int32)), .unset, .unset, .unset, .unset] [(.long (((q3.toUInt64 >>> ((42 : Int32) &&& 0x3f).toInt64.toUInt64).toInt64) &&& (3 : Int64)))]))
  refine Run.go (fun _ k => XS.l2i X0.here hx rfl (hb hby d1_14) rfl k) ?_
  show Run p e below s 0 0 (Q_rm1_1 Z q1 q2 q3 h0 n0) (s₁.setTop (mkF m 15 #[.val (.long q1), .second, .val (.long q2), .second, .val (.long q3), .second, .val (.int (1 : Int32)), .val (.int (1 : Int32)), .unset, .unset, .unset, .unset] [(.int ((((q3.toUInt64 >>> ((42 : Int32) &&& 0x3f).toInt64.toUInt64).toInt64) &&& (3 : Int64)).toInt32))]))
  refine Run.go (fun _ k => XS.istore X0.here hx rfl (hb hby d1_15) rfl (l' := #[.val (.long q1), .second, .val (.long q2), .second, .val (.long q3), .second, .val (.int (1 : Int32)), .val (.int (1 : Int32)), .val (.int ((((q3.toUInt64 >>> ((42 : Int32) &&& 0x3f).toInt64.toUInt64).toInt64) &&& (3 : Int64)).toInt32)), .unset, .unset, .unset]) rfl k) ?_
  show Run p e below s 0 0 (Q_rm1_1 Z q1 q2 q3 h0 n0) (s₁.setTop (mkF m 17 #[.val (.long q1), .second, .val (.long q2), .second, .val (.long q3), .second, .val (.int (1 : Int32)), .val (.int (1 : Int32)), .val (.int ((((q3.toUInt64 >>> ((42 : Int32) &&& 0x3f).toInt64.toUInt64).toInt64) &&& (3 : Int64)).toInt32)), .unset, .unset, .unset] []))
  refine Run.go (fun _ k => XS.iload X0.here hx rfl (hb hby d1_17) rfl  k) ?_
  show Run p e below s 0 0 (Q_rm1_1 Z q1 q2 q3 h0 n0) (s₁.setTop (mkF m 19 #[.val (.long q1), .second, .val (.long q2), .second, .val (.long q3), .second, .val (.int (1 : Int32)), .val (.int (1 : Int32)), .val (.int ((((q3.toUInt64 >>> ((42 : Int32) &&& 0x3f).toInt64.toUInt64).toInt64) &&& (3 : Int64)).toInt32)), .unset, .unset, .unset] [(.int (1 : Int32))]))
  refine Run.go (fun _ k => XS.ifNo X0.here hx rfl (hb hby d1_19) rfl ((if0 _ _).trans (feq (by decide)).1) k) ?_
  show Run p e below s 0 0 (Q_rm1_1 Z q1 q2 q3 h0 n0) (s₁.setTop (mkF m 22 #[.val (.long q1), .second, .val (.long q2), .second, .val (.long q3), .second, .val (.int (1 : Int32)), .val (.int (1 : Int32)), .val (.int ((((q3.toUInt64 >>> ((42 : Int32) &&& 0x3f).toInt64.toUInt64).toInt64) &&& (3 : Int64)).toInt32)), .unset, .unset, .unset] []))
  refine Run.go (fun _ k => XS.iconst X0.here hx rfl (hb hby d1_22) k) ?_
  show Run p e below s 0 0 (Q_rm1_1 Z q1 q2 q3 h0 n0) (s₁.setTop (mkF m 23 #[.val (.long q1), .second, .val (.long q2), .second, .val (.long q3), .second, .val (.int (1 : Int32)), .val (.int (1 : Int32)), .val (.int ((((q3.toUInt64 >>> ((42 : Int32) &&& 0x3f).toInt64.toUInt64).toInt64) &&& (3 : Int64)).toInt32)), .unset, .unset, .unset] [(.int (1 : Int32))]))
  refine Run.go (fun _ k => XS.iload X0.here hx rfl (hb hby d1_23) rfl  k) ?_
  show Run p e below s 0 0 (Q_rm1_1 Z q1 q2 q3 h0 n0) (s₁.setTop (mkF m 25 #[.val (.long q1), .second, .val (.long q2), .second, .val (.long q3), .second, .val (.int (1 : Int32)), .val (.int (1 : Int32)), .val (.int ((((q3.toUInt64 >>> ((42 : Int32) &&& 0x3f).toInt64.toUInt64).toInt64) &&& (3 : Int64)).toInt32)), .unset, .unset, .unset] [(.int ((((q3.toUInt64 >>> ((42 : Int32) &&& 0x3f).toInt64.toUInt64).toInt64) &&& (3 : Int64)).toInt32)), (.int (1 : Int32))]))
  refine Run.go (fun _ k => XS.iconst X0.here hx rfl (hb hby d1_25) k) ?_
  show Run p e below s 0 0 (Q_rm1_1 Z q1 q2 q3 h0 n0) (s₁.setTop (mkF m 26 #[.val (.long q1), .second, .val (.long q2), .second, .val (.long q3), .second, .val (.int (1 : Int32)), .val (.int (1 : Int32)), .val (.int ((((q3.toUInt64 >>> ((42 : Int32) &&& 0x3f).toInt64.toUInt64).toInt64) &&& (3 : Int64)).toInt32)), .unset, .unset, .unset] [(.int (1 : Int32)), (.int ((((q3.toUInt64 >>> ((42 : Int32) &&& 0x3f).toInt64.toUInt64).toInt64) &&& (3 : Int64)).toInt32)), (.int (1 : Int32))]))
  refine Run.go (fun _ k => XS.iand X0.here hx rfl (hb hby d1_26) rfl k) ?_
  show Run p e below s 0 0 (Q_rm1_1 Z q1 q2 q3 h0 n0) (s₁.setTop (mkF m 27 #[.val (.long q1), .second, .val (.long q2), .second, .val (.long q3), .second, .val (.int (1 : Int32)), .val (.int (1 : Int32)), .val (.int ((((q3.toUInt64 >>> ((42 : Int32) &&& 0x3f).toInt64.toUInt64).toInt64) &&& (3 : Int64)).toInt32)), .unset, .unset, .unset] [(.int (((((q3.toUInt64 >>> ((42 : Int32) &&& 0x3f).toInt64.toUInt64).toInt64) &&& (3 : Int64)).toInt32) &&& (1 : Int32))), (.int (1 : Int32))]))
  refine Run.go (fun _ k => XS.iadd X0.here hx rfl (hb hby d1_27) rfl k) ?_
  show Run p e below s 0 0 (Q_rm1_1 Z q1 q2 q3 h0 n0) (s₁.setTop (mkF m 28 #[.val (.long q1), .second, .val (.long q2), .second, .val (.long q3), .second, .val (.int (1 : Int32)), .val (.int (1 : Int32)), .val (.int ((((q3.toUInt64 >>> ((42 : Int32) &&& 0x3f).toInt64.toUInt64).toInt64) &&& (3 : Int64)).toInt32)), .unset, .unset, .unset] [(.int ((1 : Int32) + (((((q3.toUInt64 >>> ((42 : Int32) &&& 0x3f).toInt64.toUInt64).toInt64) &&& (3 : Int64)).toInt32) &&& (1 : Int32))))]))
  refine Run.go (fun _ k => XS.istore X0.here hx rfl (hb hby d1_28) rfl (l' := #[.val (.long q1), .second, .val (.long q2), .second, .val (.long q3), .second, .val (.int (1 : Int32)), .val (.int (1 : Int32)), .val (.int ((((q3.toUInt64 >>> ((42 : Int32) &&& 0x3f).toInt64.toUInt64).toInt64) &&& (3 : Int64)).toInt32)), .val (.int ((1 : Int32) + (((((q3.toUInt64 >>> ((42 : Int32) &&& 0x3f).toInt64.toUInt64).toInt64) &&& (3 : Int64)).toInt32) &&& (1 : Int32)))), .unset, .unset]) rfl k) ?_
  show Run p e below s 0 0 (Q_rm1_1 Z q1 q2 q3 h0 n0) (s₁.setTop (mkF m 30 #[.val (.long q1), .second, .val (.long q2), .second, .val (.long q3), .second, .val (.int (1 : Int32)), .val (.int (1 : Int32)), .val (.int ((((q3.toUInt64 >>> ((42 : Int32) &&& 0x3f).toInt64.toUInt64).toInt64) &&& (3 : Int64)).toInt32)), .val (.int ((1 : Int32) + (((((q3.toUInt64 >>> ((42 : Int32) &&& 0x3f).toInt64.toUInt64).toInt64) &&& (3 : Int64)).toInt32) &&& (1 : Int32)))), .unset, .unset] []))
  refine Run.go (fun _ k => XS.goto X0.here hx rfl (pc0 := 30) (pc' := 39) rfl (hb hby d1_30) (by decide) (by decide) k) ?_
  show Run p e below s 0 0 (Q_rm1_1 Z q1 q2 q3 h0 n0) (s₁.setTop (mkF m 39 #[.val (.long q1), .second, .val (.long q2), .second, .val (.long q3), .second, .val (.int (1 : Int32)), .val (.int (1 : Int32)), .val (.int ((((q3.toUInt64 >>> ((42 : Int32) &&& 0x3f).toInt64.toUInt64).toInt64) &&& (3 : Int64)).toInt32)), .val (.int ((1 : Int32) + (((((q3.toUInt64 >>> ((42 : Int32) &&& 0x3f).toInt64.toUInt64).toInt64) &&& (3 : Int64)).toInt32) &&& (1 : Int32)))), .unset, .unset] []))
  refine Run.go (fun _ k => XS.iconst X0.here hx rfl (hb hby d1_39) k) ?_
  show Run p e below s 0 0 (Q_rm1_1 Z q1 q2 q3 h0 n0) (s₁.setTop (mkF m 40 #[.val (.long q1), .second, .val (.long q2), .second, .val (.long q3), .second, .val (.int (1 : Int32)), .val (.int (1 : Int32)), .val (.int ((((q3.toUInt64 >>> ((42 : Int32) &&& 0x3f).toInt64.toUInt64).toInt64) &&& (3 : Int64)).toInt32)), .val (.int ((1 : Int32) + (((((q3.toUInt64 >>> ((42 : Int32) &&& 0x3f).toInt64.toUInt64).toInt64) &&& (3 : Int64)).toInt32) &&& (1 : Int32)))), .unset, .unset] [(.int (0 : Int32))]))
  refine Run.go (fun _ k => XS.istore X0.here hx rfl (hb hby d1_40) rfl (l' := #[.val (.long q1), .second, .val (.long q2), .second, .val (.long q3), .second, .val (.int (1 : Int32)), .val (.int (1 : Int32)), .val (.int ((((q3.toUInt64 >>> ((42 : Int32) &&& 0x3f).toInt64.toUInt64).toInt64) &&& (3 : Int64)).toInt32)), .val (.int ((1 : Int32) + (((((q3.toUInt64 >>> ((42 : Int32) &&& 0x3f).toInt64.toUInt64).toInt64) &&& (3 : Int64)).toInt32) &&& (1 : Int32)))), .val (.int (0 : Int32)), .unset]) rfl k) ?_
  show Run p e below s 0 0 (Q_rm1_1 Z q1 q2 q3 h0 n0) (s₁.setTop (mkF m 42 #[.val (.long q1), .second, .val (.long q2), .second, .val (.long q3), .second, .val (.int (1 : Int32)), .val (.int (1 : Int32)), .val (.int ((((q3.toUInt64 >>> ((42 : Int32) &&& 0x3f).toInt64.toUInt64).toInt64) &&& (3 : Int64)).toInt32)), .val (.int ((1 : Int32) + (((((q3.toUInt64 >>> ((42 : Int32) &&& 0x3f).toInt64.toUInt64).toInt64) &&& (3 : Int64)).toInt32) &&& (1 : Int32)))), .val (.int (0 : Int32)), .unset] []))
  refine Run.go (fun _ k => XS.iconst X0.here hx rfl (hb hby d1_42) k) ?_
  show Run p e below s 0 0 (Q_rm1_1 Z q1 q2 q3 h0 n0) (s₁.setTop (mkF m 43 #[.val (.long q1), .second, .val (.long q2), .second, .val (.long q3), .second, .val (.int (1 : Int32)), .val (.int (1 : Int32)), .val (.int ((((q3.toUInt64 >>> ((42 : Int32) &&& 0x3f).toInt64.toUInt64).toInt64) &&& (3 : Int64)).toInt32)), .val (.int ((1 : Int32) + (((((q3.toUInt64 >>> ((42 : Int32) &&& 0x3f).toInt64.toUInt64).toInt64) &&& (3 : Int64)).toInt32) &&& (1 : Int32)))), .val (.int (0 : Int32)), .unset] [(.int (0 : Int32))]))
  refine Run.go (fun _ k => XS.istore X0.here hx rfl (hb hby d1_43) rfl (l' := #[.val (.long q1), .second, .val (.long q2), .second, .val (.long q3), .second, .val (.int (1 : Int32)), .val (.int (1 : Int32)), .val (.int ((((q3.toUInt64 >>> ((42 : Int32) &&& 0x3f).toInt64.toUInt64).toInt64) &&& (3 : Int64)).toInt32)), .val (.int ((1 : Int32) + (((((q3.toUInt64 >>> ((42 : Int32) &&& 0x3f).toInt64.toUInt64).toInt64) &&& (3 : Int64)).toInt32) &&& (1 : Int32)))), .val (.int (0 : Int32)), .val (.int (0 : Int32))]) rfl k) ?_
  show Run p e below s 0 0 (Q_rm1_1 Z q1 q2 q3 h0 n0) (s₁.setTop (mkF m 45 #[.val (.long q1), .second, .val (.long q2), .second, .val (.long q3), .second, .val (.int (1 : Int32)), .val (.int (1 : Int32)), .val (.int ((((q3.toUInt64 >>> ((42 : Int32) &&& 0x3f).toInt64.toUInt64).toInt64) &&& (3 : Int64)).toInt32)), .val (.int ((1 : Int32) + (((((q3.toUInt64 >>> ((42 : Int32) &&& 0x3f).toInt64.toUInt64).toInt64) &&& (3 : Int64)).toInt32) &&& (1 : Int32)))), .val (.int (0 : Int32)), .val (.int (0 : Int32))] []))
  refine Run.go (fun _ k => XS.iload X0.here hx rfl (hb hby d1_45) rfl  k) ?_
  show Run p e below s 0 0 (Q_rm1_1 Z q1 q2 q3 h0 n0) (s₁.setTop (mkF m 47 #[.val (.long q1), .second, .val (.long q2), .second, .val (.long q3), .second, .val (.int (1 : Int32)), .val (.int (1 : Int32)), .val (.int ((((q3.toUInt64 >>> ((42 : Int32) &&& 0x3f).toInt64.toUInt64).toInt64) &&& (3 : Int64)).toInt32)), .val (.int ((1 : Int32) + (((((q3.toUInt64 >>> ((42 : Int32) &&& 0x3f).toInt64.toUInt64).toInt64) &&& (3 : Int64)).toInt32) &&& (1 : Int32)))), .val (.int (0 : Int32)), .val (.int (0 : Int32))] [(.int ((1 : Int32) + (((((q3.toUInt64 >>> ((42 : Int32) &&& 0x3f).toInt64.toUInt64).toInt64) &&& (3 : Int64)).toInt32) &&& (1 : Int32))))]))
  refine Run.go (fun _ k => XS.iconst X0.here hx rfl (hb hby d1_47) k) ?_
  show Run p e below s 0 0 (Q_rm1_1 Z q1 q2 q3 h0 n0) (s₁.setTop (mkF m 48 #[.val (.long q1), .second, .val (.long q2), .second, .val (.long q3), .second, .val (.int (1 : Int32)), .val (.int (1 : Int32)), .val (.int ((((q3.toUInt64 >>> ((42 : Int32) &&& 0x3f).toInt64.toUInt64).toInt64) &&& (3 : Int64)).toInt32)), .val (.int ((1 : Int32) + (((((q3.toUInt64 >>> ((42 : Int32) &&& 0x3f).toInt64.toUInt64).toInt64) &&& (3 : Int64)).toInt32) &&& (1 : Int32)))), .val (.int (0 : Int32)), .val (.int (0 : Int32))] [(.int (1 : Int32)), (.int ((1 : Int32) + (((((q3.toUInt64 >>> ((42 : Int32) &&& 0x3f).toInt64.toUInt64).toInt64) &&& (3 : Int64)).toInt32) &&& (1 : Int32))))]))
  have J4 : ∀ (w5 : Int32) (hw5 : w5 = (if (((1 : Int32) + (((((q3.toUInt64 >>> ((42 : Int32) &&& 0x3f).toInt64.toUInt64).toInt64) &&& (3 : Int64)).toInt32) &&& (1 : Int32))) < (1 : Int32)) then (0 : Int32) else ((((q1.toUInt64 >>> ((8 : Int32) &&& 0x3f).toInt64.toUInt64).toInt64) &&& (255 : Int64)).toInt32))) (T6 : State) (L6 : List Loc) (X6 : Stand p l e ({ frames := 0, cells := 0, slots := 0, locals := 0 } : Room) s m #[(.long q1), (.long q2), (.long q3), (.int (1 : Int32)), (.int (1 : Int32))] below meth c T6 L6 0 0) (e6 : T6.heap = h0) (N6 : Fr n0 L6), Run p e below s 0 0 (Q_rm1_1 Z q1 q2 q3 h0 n0) (T6.setTop (mkF m 65 #[.val (.long q1), .second, .val (.long q2), .second, .val (.long q3), .second, .val (.int (1 : Int32)), .val (.int (1 : Int32)), .val (.int ((((q3.toUInt64 >>> ((42 : Int32) &&& 0x3f).toInt64.toUInt64).toInt64) &&& (3 : Int64)).toInt32)), .val (.int ((1 : Int32) + (((((q3.toUInt64 >>> ((42 : Int32) &&& 0x3f).toInt64.toUInt64).toInt64) &&& (3 : Int64)).toInt32) &&& (1 : Int32)))), .val (.int w5), .val (.int (0 : Int32))] [])) := by
    intro w5 hw5 T6 L6 X6 e6 N6
    show Run p e below s 0 0 (Q_rm1_1 Z q1 q2 q3 h0 n0) (T6.setTop (mkF m 65 #[.val (.long q1), .second, .val (.long q2), .second, .val (.long q3), .second, .val (.int (1 : Int32)), .val (.int (1 : Int32)), .val (.int ((((q3.toUInt64 >>> ((42 : Int32) &&& 0x3f).toInt64.toUInt64).toInt64) &&& (3 : Int64)).toInt32)), .val (.int ((1 : Int32) + (((((q3.toUInt64 >>> ((42 : Int32) &&& 0x3f).toInt64.toUInt64).toInt64) &&& (3 : Int64)).toInt32) &&& (1 : Int32)))), .val (.int w5), .val (.int (0 : Int32))] []))
    refine Run.go (fun _ k => XS.iload X6.here hx rfl (hb hby d1_65) rfl  k) ?_
    show Run p e below s 0 0 (Q_rm1_1 Z q1 q2 q3 h0 n0) (T6.setTop (mkF m 67 #[.val (.long q1), .second, .val (.long q2), .second, .val (.long q3), .second, .val (.int (1 : Int32)), .val (.int (1 : Int32)), .val (.int ((((q3.toUInt64 >>> ((42 : Int32) &&& 0x3f).toInt64.toUInt64).toInt64) &&& (3 : Int64)).toInt32)), .val (.int ((1 : Int32) + (((((q3.toUInt64 >>> ((42 : Int32) &&& 0x3f).toInt64.toUInt64).toInt64) &&& (3 : Int64)).toInt32) &&& (1 : Int32)))), .val (.int w5), .val (.int (0 : Int32))] [(.int ((1 : Int32) + (((((q3.toUInt64 >>> ((42 : Int32) &&& 0x3f).toInt64.toUInt64).toInt64) &&& (3 : Int64)).toInt32) &&& (1 : Int32))))]))
    refine Run.go (fun _ k => XS.iconst X6.here hx rfl (hb hby d1_67) k) ?_
    show Run p e below s 0 0 (Q_rm1_1 Z q1 q2 q3 h0 n0) (T6.setTop (mkF m 68 #[.val (.long q1), .second, .val (.long q2), .second, .val (.long q3), .second, .val (.int (1 : Int32)), .val (.int (1 : Int32)), .val (.int ((((q3.toUInt64 >>> ((42 : Int32) &&& 0x3f).toInt64.toUInt64).toInt64) &&& (3 : Int64)).toInt32)), .val (.int ((1 : Int32) + (((((q3.toUInt64 >>> ((42 : Int32) &&& 0x3f).toInt64.toUInt64).toInt64) &&& (3 : Int64)).toInt32) &&& (1 : Int32)))), .val (.int w5), .val (.int (0 : Int32))] [(.int (2 : Int32)), (.int ((1 : Int32) + (((((q3.toUInt64 >>> ((42 : Int32) &&& 0x3f).toInt64.toUInt64).toInt64) &&& (3 : Int64)).toInt32) &&& (1 : Int32))))]))
    have J7 : ∀ (w8 : Int32) (hw8 : w8 = (if (((1 : Int32) + (((((q3.toUInt64 >>> ((42 : Int32) &&& 0x3f).toInt64.toUInt64).toInt64) &&& (3 : Int64)).toInt32) &&& (1 : Int32))) < (2 : Int32)) then (0 : Int32) else ((((q2.toUInt64 >>> ((8 : Int32) &&& 0x3f).toInt64.toUInt64).toInt64) &&& (255 : Int64)).toInt32))) (T9 : State) (L9 : List Loc) (X9 : Stand p l e ({ frames := 0, cells := 0, slots := 0, locals := 0 } : Room) s m #[(.long q1), (.long q2), (.long q3), (.int (1 : Int32)), (.int (1 : Int32))] below meth c T9 L9 0 0) (e9 : T9.heap = h0) (N9 : Fr n0 L9), Run p e below s 0 0 (Q_rm1_1 Z q1 q2 q3 h0 n0) (T9.setTop (mkF m 85 #[.val (.long q1), .second, .val (.long q2), .second, .val (.long q3), .second, .val (.int (1 : Int32)), .val (.int (1 : Int32)), .val (.int ((((q3.toUInt64 >>> ((42 : Int32) &&& 0x3f).toInt64.toUInt64).toInt64) &&& (3 : Int64)).toInt32)), .val (.int ((1 : Int32) + (((((q3.toUInt64 >>> ((42 : Int32) &&& 0x3f).toInt64.toUInt64).toInt64) &&& (3 : Int64)).toInt32) &&& (1 : Int32)))), .val (.int w5), .val (.int w8)] [])) := by
      intro w8 hw8 T9 L9 X9 e9 N9
      show Run p e below s 0 0 (Q_rm1_1 Z q1 q2 q3 h0 n0) (T9.setTop (mkF m 85 #[.val (.long q1), .second, .val (.long q2), .second, .val (.long q3), .second, .val (.int (1 : Int32)), .val (.int (1 : Int32)), .val (.int ((((q3.toUInt64 >>> ((42 : Int32) &&& 0x3f).toInt64.toUInt64).toInt64) &&& (3 : Int64)).toInt32)), .val (.int ((1 : Int32) + (((((q3.toUInt64 >>> ((42 : Int32) &&& 0x3f).toInt64.toUInt64).toInt64) &&& (3 : Int64)).toInt32) &&& (1 : Int32)))), .val (.int w5), .val (.int w8)] []))
      refine Run.go (fun _ k => XS.iload X9.here hx rfl (hb hby d1_85) rfl  k) ?_
      show Run p e below s 0 0 (Q_rm1_1 Z q1 q2 q3 h0 n0) (T9.setTop (mkF m 87 #[.val (.long q1), .second, .val (.long q2), .second, .val (.long q3), .second, .val (.int (1 : Int32)), .val (.int (1 : Int32)), .val (.int ((((q3.toUInt64 >>> ((42 : Int32) &&& 0x3f).toInt64.toUInt64).toInt64) &&& (3 : Int64)).toInt32)), .val (.int ((1 : Int32) + (((((q3.toUInt64 >>> ((42 : Int32) &&& 0x3f).toInt64.toUInt64).toInt64) &&& (3 : Int64)).toInt32) &&& (1 : Int32)))), .val (.int w5), .val (.int w8)] [(.int ((1 : Int32) + (((((q3.toUInt64 >>> ((42 : Int32) &&& 0x3f).toInt64.toUInt64).toInt64) &&& (3 : Int64)).toInt32) &&& (1 : Int32))))]))
      refine Run.go (fun _ k => XS.bipush X9.here hx rfl (hb hby d1_87) k) ?_
      show Run p e below s 0 0 (Q_rm1_1 Z q1 q2 q3 h0 n0) (T9.setTop (mkF m 89 #[.val (.long q1), .second, .val (.long q2), .second, .val (.long q3), .second, .val (.int (1 : Int32)), .val (.int (1 : Int32)), .val (.int ((((q3.toUInt64 >>> ((42 : Int32) &&& 0x3f).toInt64.toUInt64).toInt64) &&& (3 : Int64)).toInt32)), .val (.int ((1 : Int32) + (((((q3.toUInt64 >>> ((42 : Int32) &&& 0x3f).toInt64.toUInt64).toInt64) &&& (3 : Int64)).toInt32) &&& (1 : Int32)))), .val (.int w5), .val (.int w8)] [(.int (16 : Int32)), (.int ((1 : Int32) + (((((q3.toUInt64 >>> ((42 : Int32) &&& 0x3f).toInt64.toUInt64).toInt64) &&& (3 : Int64)).toInt32) &&& (1 : Int32))))]))
      refine Run.go (fun _ k => XS.ishl X9.here hx rfl (hb hby d1_89) rfl k) ?_
      show Run p e below s 0 0 (Q_rm1_1 Z q1 q2 q3 h0 n0) (T9.setTop (mkF m 90 #[.val (.long q1), .second, .val (.long q2), .second, .val (.long q3), .second, .val (.int (1 : Int32)), .val (.int (1 : Int32)), .val (.int ((((q3.toUInt64 >>> ((42 : Int32) &&& 0x3f).toInt64.toUInt64).toInt64) &&& (3 : Int64)).toInt32)), .val (.int ((1 : Int32) + (((((q3.toUInt64 >>> ((42 : Int32) &&& 0x3f).toInt64.toUInt64).toInt64) &&& (3 : Int64)).toInt32) &&& (1 : Int32)))), .val (.int w5), .val (.int w8)] [(.int (((1 : Int32) + (((((q3.toUInt64 >>> ((42 : Int32) &&& 0x3f).toInt64.toUInt64).toInt64) &&& (3 : Int64)).toInt32) &&& (1 : Int32))) <<< ((16 : Int32) &&& 31)))]))
      refine Run.go (fun _ k => XS.iload X9.here hx rfl (hb hby d1_90) rfl  k) ?_
      show Run p e below s 0 0 (Q_rm1_1 Z q1 q2 q3 h0 n0) (T9.setTop (mkF m 92 #[.val (.long q1), .second, .val (.long q2), .second, .val (.long q3), .second, .val (.int (1 : Int32)), .val (.int (1 : Int32)), .val (.int ((((q3.toUInt64 >>> ((42 : Int32) &&& 0x3f).toInt64.toUInt64).toInt64) &&& (3 : Int64)).toInt32)), .val (.int ((1 : Int32) + (((((q3.toUInt64 >>> ((42 : Int32) &&& 0x3f).toInt64.toUInt64).toInt64) &&& (3 : Int64)).toInt32) &&& (1 : Int32)))), .val (.int w5), .val (.int w8)] [(.int w5), (.int (((1 : Int32) + (((((q3.toUInt64 >>> ((42 : Int32) &&& 0x3f).toInt64.toUInt64).toInt64) &&& (3 : Int64)).toInt32) &&& (1 : Int32))) <<< ((16 : Int32) &&& 31)))]))
      refine Run.go (fun _ k => XS.bipush X9.here hx rfl (hb hby d1_92) k) ?_
      show Run p e below s 0 0 (Q_rm1_1 Z q1 q2 q3 h0 n0) (T9.setTop (mkF m 94 #[.val (.long q1), .second, .val (.long q2), .second, .val (.long q3), .second, .val (.int (1 : Int32)), .val (.int (1 : Int32)), .val (.int ((((q3.toUInt64 >>> ((42 : Int32) &&& 0x3f).toInt64.toUInt64).toInt64) &&& (3 : Int64)).toInt32)), .val (.int ((1 : Int32) + (((((q3.toUInt64 >>> ((42 : Int32) &&& 0x3f).toInt64.toUInt64).toInt64) &&& (3 : Int64)).toInt32) &&& (1 : Int32)))), .val (.int w5), .val (.int w8)] [(.int (8 : Int32)), (.int w5), (.int (((1 : Int32) + (((((q3.toUInt64 >>> ((42 : Int32) &&& 0x3f).toInt64.toUInt64).toInt64) &&& (3 : Int64)).toInt32) &&& (1 : Int32))) <<< ((16 : Int32) &&& 31)))]))
      refine Run.go (fun _ k => XS.ishl X9.here hx rfl (hb hby d1_94) rfl k) ?_
      show Run p e below s 0 0 (Q_rm1_1 Z q1 q2 q3 h0 n0) (T9.setTop (mkF m 95 #[.val (.long q1), .second, .val (.long q2), .second, .val (.long q3), .second, .val (.int (1 : Int32)), .val (.int (1 : Int32)), .val (.int ((((q3.toUInt64 >>> ((42 : Int32) &&& 0x3f).toInt64.toUInt64).toInt64) &&& (3 : Int64)).toInt32)), .val (.int ((1 : Int32) + (((((q3.toUInt64 >>> ((42 : Int32) &&& 0x3f).toInt64.toUInt64).toInt64) &&& (3 : Int64)).toInt32) &&& (1 : Int32)))), .val (.int w5), .val (.int w8)] [(.int (w5 <<< ((8 : Int32) &&& 31))), (.int (((1 : Int32) + (((((q3.toUInt64 >>> ((42 : Int32) &&& 0x3f).toInt64.toUInt64).toInt64) &&& (3 : Int64)).toInt32) &&& (1 : Int32))) <<< ((16 : Int32) &&& 31)))]))
      refine Run.go (fun _ k => XS.ior X9.here hx rfl (hb hby d1_95) rfl k) ?_
      show Run p e below s 0 0 (Q_rm1_1 Z q1 q2 q3 h0 n0) (T9.setTop (mkF m 96 #[.val (.long q1), .second, .val (.long q2), .second, .val (.long q3), .second, .val (.int (1 : Int32)), .val (.int (1 : Int32)), .val (.int ((((q3.toUInt64 >>> ((42 : Int32) &&& 0x3f).toInt64.toUInt64).toInt64) &&& (3 : Int64)).toInt32)), .val (.int ((1 : Int32) + (((((q3.toUInt64 >>> ((42 : Int32) &&& 0x3f).toInt64.toUInt64).toInt64) &&& (3 : Int64)).toInt32) &&& (1 : Int32)))), .val (.int w5), .val (.int w8)] [(.int ((((1 : Int32) + (((((q3.toUInt64 >>> ((42 : Int32) &&& 0x3f).toInt64.toUInt64).toInt64) &&& (3 : Int64)).toInt32) &&& (1 : Int32))) <<< ((16 : Int32) &&& 31)) ||| (w5 <<< ((8 : Int32) &&& 31))))]))
      refine Run.go (fun _ k => XS.iload X9.here hx rfl (hb hby d1_96) rfl  k) ?_
      show Run p e below s 0 0 (Q_rm1_1 Z q1 q2 q3 h0 n0) (T9.setTop (mkF m 98 #[.val (.long q1), .second, .val (.long q2), .second, .val (.long q3), .second, .val (.int (1 : Int32)), .val (.int (1 : Int32)), .val (.int ((((q3.toUInt64 >>> ((42 : Int32) &&& 0x3f).toInt64.toUInt64).toInt64) &&& (3 : Int64)).toInt32)), .val (.int ((1 : Int32) + (((((q3.toUInt64 >>> ((42 : Int32) &&& 0x3f).toInt64.toUInt64).toInt64) &&& (3 : Int64)).toInt32) &&& (1 : Int32)))), .val (.int w5), .val (.int w8)] [(.int w8), (.int ((((1 : Int32) + (((((q3.toUInt64 >>> ((42 : Int32) &&& 0x3f).toInt64.toUInt64).toInt64) &&& (3 : Int64)).toInt32) &&& (1 : Int32))) <<< ((16 : Int32) &&& 31)) ||| (w5 <<< ((8 : Int32) &&& 31))))]))
      refine Run.go (fun _ k => XS.ior X9.here hx rfl (hb hby d1_98) rfl k) ?_
      show Run p e below s 0 0 (Q_rm1_1 Z q1 q2 q3 h0 n0) (T9.setTop (mkF m 99 #[.val (.long q1), .second, .val (.long q2), .second, .val (.long q3), .second, .val (.int (1 : Int32)), .val (.int (1 : Int32)), .val (.int ((((q3.toUInt64 >>> ((42 : Int32) &&& 0x3f).toInt64.toUInt64).toInt64) &&& (3 : Int64)).toInt32)), .val (.int ((1 : Int32) + (((((q3.toUInt64 >>> ((42 : Int32) &&& 0x3f).toInt64.toUInt64).toInt64) &&& (3 : Int64)).toInt32) &&& (1 : Int32)))), .val (.int w5), .val (.int w8)] [(.int (((((1 : Int32) + (((((q3.toUInt64 >>> ((42 : Int32) &&& 0x3f).toInt64.toUInt64).toInt64) &&& (3 : Int64)).toInt32) &&& (1 : Int32))) <<< ((16 : Int32) &&& 31)) ||| (w5 <<< ((8 : Int32) &&& 31))) ||| w8))]))
      refine Run.retI X9 hx Bd.returns Bd.notSynchronized (hb hby d1_99) (by decide) (by decide) ?_
      show Q_rm1_1 Z q1 q2 q3 h0 n0 _ T9.heap _
      exact ⟨congrArg some (congrArg Value.int (show (((((1 : Int32) + (((((q3.toUInt64 >>> ((42 : Int32) &&& 0x3f).toInt64.toUInt64).toInt64) &&& (3 : Int64)).toInt32) &&& (1 : Int32))) <<< ((16 : Int32) &&& 31)) ||| (w5 <<< ((8 : Int32) &&& 31))) ||| w8) = (F_rm1_1 q1 q2 q3) from (by subst hw8; subst hw5; unfold F_rm1_1; rfl))), N9, e9⟩
    by_cases hc10 : (((1 : Int32) + (((((q3.toUInt64 >>> ((42 : Int32) &&& 0x3f).toInt64.toUInt64).toInt64) &&& (3 : Int64)).toInt32) &&& (1 : Int32))) < (2 : Int32))
    · refine Run.go (fun _ k => XS.icmpYes X6.here hx rfl (pc0 := 68) (pc' := 85) rfl (hb hby d1_68) rfl (tlt hc10).1 (by decide) (by decide) k) ?_
      show Run p e below s 0 0 (Q_rm1_1 Z q1 q2 q3 h0 n0) (T6.setTop (mkF m 85 #[.val (.long q1), .second, .val (.long q2), .second, .val (.long q3), .second, .val (.int (1 : Int32)), .val (.int (1 : Int32)), .val (.int ((((q3.toUInt64 >>> ((42 : Int32) &&& 0x3f).toInt64.toUInt64).toInt64) &&& (3 : Int64)).toInt32)), .val (.int ((1 : Int32) + (((((q3.toUInt64 >>> ((42 : Int32) &&& 0x3f).toInt64.toUInt64).toInt64) &&& (3 : Int64)).toInt32) &&& (1 : Int32)))), .val (.int w5), .val (.int (0 : Int32))] []))
      exact J7 _ (by rw [if_pos hc10]) _ _ X6 e6 N6
    · refine Run.go (fun _ k => XS.icmpNo X6.here hx rfl (hb hby d1_68) rfl (flt hc10).1 k) ?_
      show Run p e below s 0 0 (Q_rm1_1 Z q1 q2 q3 h0 n0) (T6.setTop (mkF m 71 #[.val (.long q1), .second, .val (.long q2), .second, .val (.long q3), .second, .val (.int (1 : Int32)), .val (.int (1 : Int32)), .val (.int ((((q3.toUInt64 >>> ((42 : Int32) &&& 0x3f).toInt64.toUInt64).toInt64) &&& (3 : Int64)).toInt32)), .val (.int ((1 : Int32) + (((((q3.toUInt64 >>> ((42 : Int32) &&& 0x3f).toInt64.toUInt64).toInt64) &&& (3 : Int64)).toInt32) &&& (1 : Int32)))), .val (.int w5), .val (.int (0 : Int32))] []))
      refine Run.go (fun _ k => XS.lloadN X6.here hx rfl (hb hby d1_71) rfl  k) ?_
      show Run p e below s 0 0 (Q_rm1_1 Z q1 q2 q3 h0 n0) (T6.setTop (mkF m 72 #[.val (.long q1), .second, .val (.long q2), .second, .val (.long q3), .second, .val (.int (1 : Int32)), .val (.int (1 : Int32)), .val (.int ((((q3.toUInt64 >>> ((42 : Int32) &&& 0x3f).toInt64.toUInt64).toInt64) &&& (3 : Int64)).toInt32)), .val (.int ((1 : Int32) + (((((q3.toUInt64 >>> ((42 : Int32) &&& 0x3f).toInt64.toUInt64).toInt64) &&& (3 : Int64)).toInt32) &&& (1 : Int32)))), .val (.int w5), .val (.int (0 : Int32))] [(.long q2)]))
      refine Run.go (fun _ k => XS.bipush X6.here hx rfl (hb hby d1_72) k) ?_
      show Run p e below s 0 0 (Q_rm1_1 Z q1 q2 q3 h0 n0) (T6.setTop (mkF m 74 #[.val (.long q1), .second, .val (.long q2), .second, .val (.long q3), .second, .val (.int (1 : Int32)), .val (.int (1 : Int32)), .val (.int ((((q3.toUInt64 >>> ((42 : Int32) &&& 0x3f).toInt64.toUInt64).toInt64) &&& (3 : Int64)).toInt32)), .val (.int ((1 : Int32) + (((((q3.toUInt64 >>> ((42 : Int32) &&& 0x3f).toInt64.toUInt64).toInt64) &&& (3 : Int64)).toInt32) &&& (1 : Int32)))), .val (.int w5), .val (.int (0 : Int32))] [(.int (8 : Int32)), (.long q2)]))
      refine Run.go (fun _ k => XS.iload X6.here hx rfl (hb hby d1_74) rfl  k) ?_
      show Run p e below s 0 0 (Q_rm1_1 Z q1 q2 q3 h0 n0) (T6.setTop (mkF m 76 #[.val (.long q1), .second, .val (.long q2), .second, .val (.long q3), .second, .val (.int (1 : Int32)), .val (.int (1 : Int32)), .val (.int ((((q3.toUInt64 >>> ((42 : Int32) &&& 0x3f).toInt64.toUInt64).toInt64) &&& (3 : Int64)).toInt32)), .val (.int ((1 : Int32) + (((((q3.toUInt64 >>> ((42 : Int32) &&& 0x3f).toInt64.toUInt64).toInt64) &&& (3 : Int64)).toInt32) &&& (1 : Int32)))), .val (.int w5), .val (.int (0 : Int32))] [(.int (1 : Int32)), (.int (8 : Int32)), (.long q2)]))
      refine Run.go (fun _ k => XS.imul X6.here hx rfl (hb hby d1_76) rfl k) ?_
      show Run p e below s 0 0 (Q_rm1_1 Z q1 q2 q3 h0 n0) (T6.setTop (mkF m 77 #[.val (.long q1), .second, .val (.long q2), .second, .val (.long q3), .second, .val (.int (1 : Int32)), .val (.int (1 : Int32)), .val (.int ((((q3.toUInt64 >>> ((42 : Int32) &&& 0x3f).toInt64.toUInt64).toInt64) &&& (3 : Int64)).toInt32)), .val (.int ((1 : Int32) + (((((q3.toUInt64 >>> ((42 : Int32) &&& 0x3f).toInt64.toUInt64).toInt64) &&& (3 : Int64)).toInt32) &&& (1 : Int32)))), .val (.int w5), .val (.int (0 : Int32))] [(.int (8 : Int32)), (.long q2)]))
      refine Run.go (fun _ k => XS.lushr X6.here hx rfl (hb hby d1_77) rfl k) ?_
      show Run p e below s 0 0 (Q_rm1_1 Z q1 q2 q3 h0 n0) (T6.setTop (mkF m 78 #[.val (.long q1), .second, .val (.long q2), .second, .val (.long q3), .second, .val (.int (1 : Int32)), .val (.int (1 : Int32)), .val (.int ((((q3.toUInt64 >>> ((42 : Int32) &&& 0x3f).toInt64.toUInt64).toInt64) &&& (3 : Int64)).toInt32)), .val (.int ((1 : Int32) + (((((q3.toUInt64 >>> ((42 : Int32) &&& 0x3f).toInt64.toUInt64).toInt64) &&& (3 : Int64)).toInt32) &&& (1 : Int32)))), .val (.int w5), .val (.int (0 : Int32))] [(.long ((q2.toUInt64 >>> ((8 : Int32) &&& 0x3f).toInt64.toUInt64).toInt64))]))
      refine Run.go (fun _ k => X6.ldc2Long hx hown (mvT hZ (hw _ (List.mem_of_getElem? (i := 5) rfl))) (g := (mkF m 78 #[.val (.long q1), .second, .val (.long q2), .second, .val (.long q3), .second, .val (.int (1 : Int32)), .val (.int (1 : Int32)), .val (.int ((((q3.toUInt64 >>> ((42 : Int32) &&& 0x3f).toInt64.toUInt64).toInt64) &&& (3 : Int64)).toInt32)), .val (.int ((1 : Int32) + (((((q3.toUInt64 >>> ((42 : Int32) &&& 0x3f).toInt64.toUInt64).toInt64) &&& (3 : Int64)).toInt32) &&& (1 : Int32)))), .val (.int w5), .val (.int (0 : Int32))] [(.long ((q2.toUInt64 >>> ((8 : Int32) &&& 0x3f).toInt64.toUInt64).toInt64))])) rfl (hb hby d1_78) _ k) ?_
      show Run p e below s 0 0 (Q_rm1_1 Z q1 q2 q3 h0 n0) (T6.setTop (mkF m 81 #[.val (.long q1), .second, .val (.long q2), .second, .val (.long q3), .second, .val (.int (1 : Int32)), .val (.int (1 : Int32)), .val (.int ((((q3.toUInt64 >>> ((42 : Int32) &&& 0x3f).toInt64.toUInt64).toInt64) &&& (3 : Int64)).toInt32)), .val (.int ((1 : Int32) + (((((q3.toUInt64 >>> ((42 : Int32) &&& 0x3f).toInt64.toUInt64).toInt64) &&& (3 : Int64)).toInt32) &&& (1 : Int32)))), .val (.int w5), .val (.int (0 : Int32))] [(.long (255 : Int64)), (.long ((q2.toUInt64 >>> ((8 : Int32) &&& 0x3f).toInt64.toUInt64).toInt64))]))
      refine Run.go (fun _ k => XS.land X6.here hx rfl (hb hby d1_81) rfl k) ?_
      show Run p e below s 0 0 (Q_rm1_1 Z q1 q2 q3 h0 n0) (T6.setTop (mkF m 82 #[.val (.long q1), .second, .val (.long q2), .second, .val (.long q3), .second, .val (.int (1 : Int32)), .val (.int (1 : Int32)), .val (.int ((((q3.toUInt64 >>> ((42 : Int32) &&& 0x3f).toInt64.toUInt64).toInt64) &&& (3 : Int64)).toInt32)), .val (.int ((1 : Int32) + (((((q3.toUInt64 >>> ((42 : Int32) &&& 0x3f).toInt64.toUInt64).toInt64) &&& (3 : Int64)).toInt32) &&& (1 : Int32)))), .val (.int w5), .val (.int (0 : Int32))] [(.long (((q2.toUInt64 >>> ((8 : Int32) &&& 0x3f).toInt64.toUInt64).toInt64) &&& (255 : Int64)))]))
      refine Run.go (fun _ k => XS.l2i X6.here hx rfl (hb hby d1_82) rfl k) ?_
      show Run p e below s 0 0 (Q_rm1_1 Z q1 q2 q3 h0 n0) (T6.setTop (mkF m 83 #[.val (.long q1), .second, .val (.long q2), .second, .val (.long q3), .second, .val (.int (1 : Int32)), .val (.int (1 : Int32)), .val (.int ((((q3.toUInt64 >>> ((42 : Int32) &&& 0x3f).toInt64.toUInt64).toInt64) &&& (3 : Int64)).toInt32)), .val (.int ((1 : Int32) + (((((q3.toUInt64 >>> ((42 : Int32) &&& 0x3f).toInt64.toUInt64).toInt64) &&& (3 : Int64)).toInt32) &&& (1 : Int32)))), .val (.int w5), .val (.int (0 : Int32))] [(.int ((((q2.toUInt64 >>> ((8 : Int32) &&& 0x3f).toInt64.toUInt64).toInt64) &&& (255 : Int64)).toInt32))]))
      refine Run.go (fun _ k => XS.istore X6.here hx rfl (hb hby d1_83) rfl (l' := #[.val (.long q1), .second, .val (.long q2), .second, .val (.long q3), .second, .val (.int (1 : Int32)), .val (.int (1 : Int32)), .val (.int ((((q3.toUInt64 >>> ((42 : Int32) &&& 0x3f).toInt64.toUInt64).toInt64) &&& (3 : Int64)).toInt32)), .val (.int ((1 : Int32) + (((((q3.toUInt64 >>> ((42 : Int32) &&& 0x3f).toInt64.toUInt64).toInt64) &&& (3 : Int64)).toInt32) &&& (1 : Int32)))), .val (.int w5), .val (.int ((((q2.toUInt64 >>> ((8 : Int32) &&& 0x3f).toInt64.toUInt64).toInt64) &&& (255 : Int64)).toInt32))]) rfl k) ?_
      show Run p e below s 0 0 (Q_rm1_1 Z q1 q2 q3 h0 n0) (T6.setTop (mkF m 85 #[.val (.long q1), .second, .val (.long q2), .second, .val (.long q3), .second, .val (.int (1 : Int32)), .val (.int (1 : Int32)), .val (.int ((((q3.toUInt64 >>> ((42 : Int32) &&& 0x3f).toInt64.toUInt64).toInt64) &&& (3 : Int64)).toInt32)), .val (.int ((1 : Int32) + (((((q3.toUInt64 >>> ((42 : Int32) &&& 0x3f).toInt64.toUInt64).toInt64) &&& (3 : Int64)).toInt32) &&& (1 : Int32)))), .val (.int w5), .val (.int ((((q2.toUInt64 >>> ((8 : Int32) &&& 0x3f).toInt64.toUInt64).toInt64) &&& (255 : Int64)).toInt32))] []))
      exact J7 _ (by rw [if_neg hc10]) _ _ X6 e6 N6
  by_cases hc11 : (((1 : Int32) + (((((q3.toUInt64 >>> ((42 : Int32) &&& 0x3f).toInt64.toUInt64).toInt64) &&& (3 : Int64)).toInt32) &&& (1 : Int32))) < (1 : Int32))
  · refine Run.go (fun _ k => XS.icmpYes X0.here hx rfl (pc0 := 48) (pc' := 65) rfl (hb hby d1_48) rfl (tlt hc11).1 (by decide) (by decide) k) ?_
    show Run p e below s 0 0 (Q_rm1_1 Z q1 q2 q3 h0 n0) (s₁.setTop (mkF m 65 #[.val (.long q1), .second, .val (.long q2), .second, .val (.long q3), .second, .val (.int (1 : Int32)), .val (.int (1 : Int32)), .val (.int ((((q3.toUInt64 >>> ((42 : Int32) &&& 0x3f).toInt64.toUInt64).toInt64) &&& (3 : Int64)).toInt32)), .val (.int ((1 : Int32) + (((((q3.toUInt64 >>> ((42 : Int32) &&& 0x3f).toInt64.toUInt64).toInt64) &&& (3 : Int64)).toInt32) &&& (1 : Int32)))), .val (.int (0 : Int32)), .val (.int (0 : Int32))] []))
    exact J4 _ (by rw [if_pos hc11]) _ _ X0 e0 N0
  · refine Run.go (fun _ k => XS.icmpNo X0.here hx rfl (hb hby d1_48) rfl (flt hc11).1 k) ?_
    show Run p e below s 0 0 (Q_rm1_1 Z q1 q2 q3 h0 n0) (s₁.setTop (mkF m 51 #[.val (.long q1), .second, .val (.long q2), .second, .val (.long q3), .second, .val (.int (1 : Int32)), .val (.int (1 : Int32)), .val (.int ((((q3.toUInt64 >>> ((42 : Int32) &&& 0x3f).toInt64.toUInt64).toInt64) &&& (3 : Int64)).toInt32)), .val (.int ((1 : Int32) + (((((q3.toUInt64 >>> ((42 : Int32) &&& 0x3f).toInt64.toUInt64).toInt64) &&& (3 : Int64)).toInt32) &&& (1 : Int32)))), .val (.int (0 : Int32)), .val (.int (0 : Int32))] []))
    refine Run.go (fun _ k => XS.lloadN X0.here hx rfl (hb hby d1_51) rfl  k) ?_
    show Run p e below s 0 0 (Q_rm1_1 Z q1 q2 q3 h0 n0) (s₁.setTop (mkF m 52 #[.val (.long q1), .second, .val (.long q2), .second, .val (.long q3), .second, .val (.int (1 : Int32)), .val (.int (1 : Int32)), .val (.int ((((q3.toUInt64 >>> ((42 : Int32) &&& 0x3f).toInt64.toUInt64).toInt64) &&& (3 : Int64)).toInt32)), .val (.int ((1 : Int32) + (((((q3.toUInt64 >>> ((42 : Int32) &&& 0x3f).toInt64.toUInt64).toInt64) &&& (3 : Int64)).toInt32) &&& (1 : Int32)))), .val (.int (0 : Int32)), .val (.int (0 : Int32))] [(.long q1)]))
    refine Run.go (fun _ k => XS.bipush X0.here hx rfl (hb hby d1_52) k) ?_
    show Run p e below s 0 0 (Q_rm1_1 Z q1 q2 q3 h0 n0) (s₁.setTop (mkF m 54 #[.val (.long q1), .second, .val (.long q2), .second, .val (.long q3), .second, .val (.int (1 : Int32)), .val (.int (1 : Int32)), .val (.int ((((q3.toUInt64 >>> ((42 : Int32) &&& 0x3f).toInt64.toUInt64).toInt64) &&& (3 : Int64)).toInt32)), .val (.int ((1 : Int32) + (((((q3.toUInt64 >>> ((42 : Int32) &&& 0x3f).toInt64.toUInt64).toInt64) &&& (3 : Int64)).toInt32) &&& (1 : Int32)))), .val (.int (0 : Int32)), .val (.int (0 : Int32))] [(.int (8 : Int32)), (.long q1)]))
    refine Run.go (fun _ k => XS.iload X0.here hx rfl (hb hby d1_54) rfl  k) ?_
    show Run p e below s 0 0 (Q_rm1_1 Z q1 q2 q3 h0 n0) (s₁.setTop (mkF m 56 #[.val (.long q1), .second, .val (.long q2), .second, .val (.long q3), .second, .val (.int (1 : Int32)), .val (.int (1 : Int32)), .val (.int ((((q3.toUInt64 >>> ((42 : Int32) &&& 0x3f).toInt64.toUInt64).toInt64) &&& (3 : Int64)).toInt32)), .val (.int ((1 : Int32) + (((((q3.toUInt64 >>> ((42 : Int32) &&& 0x3f).toInt64.toUInt64).toInt64) &&& (3 : Int64)).toInt32) &&& (1 : Int32)))), .val (.int (0 : Int32)), .val (.int (0 : Int32))] [(.int (1 : Int32)), (.int (8 : Int32)), (.long q1)]))
    refine Run.go (fun _ k => XS.imul X0.here hx rfl (hb hby d1_56) rfl k) ?_
    show Run p e below s 0 0 (Q_rm1_1 Z q1 q2 q3 h0 n0) (s₁.setTop (mkF m 57 #[.val (.long q1), .second, .val (.long q2), .second, .val (.long q3), .second, .val (.int (1 : Int32)), .val (.int (1 : Int32)), .val (.int ((((q3.toUInt64 >>> ((42 : Int32) &&& 0x3f).toInt64.toUInt64).toInt64) &&& (3 : Int64)).toInt32)), .val (.int ((1 : Int32) + (((((q3.toUInt64 >>> ((42 : Int32) &&& 0x3f).toInt64.toUInt64).toInt64) &&& (3 : Int64)).toInt32) &&& (1 : Int32)))), .val (.int (0 : Int32)), .val (.int (0 : Int32))] [(.int (8 : Int32)), (.long q1)]))
    refine Run.go (fun _ k => XS.lushr X0.here hx rfl (hb hby d1_57) rfl k) ?_
    show Run p e below s 0 0 (Q_rm1_1 Z q1 q2 q3 h0 n0) (s₁.setTop (mkF m 58 #[.val (.long q1), .second, .val (.long q2), .second, .val (.long q3), .second, .val (.int (1 : Int32)), .val (.int (1 : Int32)), .val (.int ((((q3.toUInt64 >>> ((42 : Int32) &&& 0x3f).toInt64.toUInt64).toInt64) &&& (3 : Int64)).toInt32)), .val (.int ((1 : Int32) + (((((q3.toUInt64 >>> ((42 : Int32) &&& 0x3f).toInt64.toUInt64).toInt64) &&& (3 : Int64)).toInt32) &&& (1 : Int32)))), .val (.int (0 : Int32)), .val (.int (0 : Int32))] [(.long ((q1.toUInt64 >>> ((8 : Int32) &&& 0x3f).toInt64.toUInt64).toInt64))]))
    refine Run.go (fun _ k => X0.ldc2Long hx hown (mvT hZ (hw _ (List.mem_of_getElem? (i := 5) rfl))) (g := (mkF m 58 #[.val (.long q1), .second, .val (.long q2), .second, .val (.long q3), .second, .val (.int (1 : Int32)), .val (.int (1 : Int32)), .val (.int ((((q3.toUInt64 >>> ((42 : Int32) &&& 0x3f).toInt64.toUInt64).toInt64) &&& (3 : Int64)).toInt32)), .val (.int ((1 : Int32) + (((((q3.toUInt64 >>> ((42 : Int32) &&& 0x3f).toInt64.toUInt64).toInt64) &&& (3 : Int64)).toInt32) &&& (1 : Int32)))), .val (.int (0 : Int32)), .val (.int (0 : Int32))] [(.long ((q1.toUInt64 >>> ((8 : Int32) &&& 0x3f).toInt64.toUInt64).toInt64))])) rfl (hb hby d1_58) _ k) ?_
    show Run p e below s 0 0 (Q_rm1_1 Z q1 q2 q3 h0 n0) (s₁.setTop (mkF m 61 #[.val (.long q1), .second, .val (.long q2), .second, .val (.long q3), .second, .val (.int (1 : Int32)), .val (.int (1 : Int32)), .val (.int ((((q3.toUInt64 >>> ((42 : Int32) &&& 0x3f).toInt64.toUInt64).toInt64) &&& (3 : Int64)).toInt32)), .val (.int ((1 : Int32) + (((((q3.toUInt64 >>> ((42 : Int32) &&& 0x3f).toInt64.toUInt64).toInt64) &&& (3 : Int64)).toInt32) &&& (1 : Int32)))), .val (.int (0 : Int32)), .val (.int (0 : Int32))] [(.long (255 : Int64)), (.long ((q1.toUInt64 >>> ((8 : Int32) &&& 0x3f).toInt64.toUInt64).toInt64))]))
    refine Run.go (fun _ k => XS.land X0.here hx rfl (hb hby d1_61) rfl k) ?_
    show Run p e below s 0 0 (Q_rm1_1 Z q1 q2 q3 h0 n0) (s₁.setTop (mkF m 62 #[.val (.long q1), .second, .val (.long q2), .second, .val (.long q3), .second, .val (.int (1 : Int32)), .val (.int (1 : Int32)), .val (.int ((((q3.toUInt64 >>> ((42 : Int32) &&& 0x3f).toInt64.toUInt64).toInt64) &&& (3 : Int64)).toInt32)), .val (.int ((1 : Int32) + (((((q3.toUInt64 >>> ((42 : Int32) &&& 0x3f).toInt64.toUInt64).toInt64) &&& (3 : Int64)).toInt32) &&& (1 : Int32)))), .val (.int (0 : Int32)), .val (.int (0 : Int32))] [(.long (((q1.toUInt64 >>> ((8 : Int32) &&& 0x3f).toInt64.toUInt64).toInt64) &&& (255 : Int64)))]))
    refine Run.go (fun _ k => XS.l2i X0.here hx rfl (hb hby d1_62) rfl k) ?_
    show Run p e below s 0 0 (Q_rm1_1 Z q1 q2 q3 h0 n0) (s₁.setTop (mkF m 63 #[.val (.long q1), .second, .val (.long q2), .second, .val (.long q3), .second, .val (.int (1 : Int32)), .val (.int (1 : Int32)), .val (.int ((((q3.toUInt64 >>> ((42 : Int32) &&& 0x3f).toInt64.toUInt64).toInt64) &&& (3 : Int64)).toInt32)), .val (.int ((1 : Int32) + (((((q3.toUInt64 >>> ((42 : Int32) &&& 0x3f).toInt64.toUInt64).toInt64) &&& (3 : Int64)).toInt32) &&& (1 : Int32)))), .val (.int (0 : Int32)), .val (.int (0 : Int32))] [(.int ((((q1.toUInt64 >>> ((8 : Int32) &&& 0x3f).toInt64.toUInt64).toInt64) &&& (255 : Int64)).toInt32))]))
    refine Run.go (fun _ k => XS.istore X0.here hx rfl (hb hby d1_63) rfl (l' := #[.val (.long q1), .second, .val (.long q2), .second, .val (.long q3), .second, .val (.int (1 : Int32)), .val (.int (1 : Int32)), .val (.int ((((q3.toUInt64 >>> ((42 : Int32) &&& 0x3f).toInt64.toUInt64).toInt64) &&& (3 : Int64)).toInt32)), .val (.int ((1 : Int32) + (((((q3.toUInt64 >>> ((42 : Int32) &&& 0x3f).toInt64.toUInt64).toInt64) &&& (3 : Int64)).toInt32) &&& (1 : Int32)))), .val (.int ((((q1.toUInt64 >>> ((8 : Int32) &&& 0x3f).toInt64.toUInt64).toInt64) &&& (255 : Int64)).toInt32)), .val (.int (0 : Int32))]) rfl k) ?_
    show Run p e below s 0 0 (Q_rm1_1 Z q1 q2 q3 h0 n0) (s₁.setTop (mkF m 65 #[.val (.long q1), .second, .val (.long q2), .second, .val (.long q3), .second, .val (.int (1 : Int32)), .val (.int (1 : Int32)), .val (.int ((((q3.toUInt64 >>> ((42 : Int32) &&& 0x3f).toInt64.toUInt64).toInt64) &&& (3 : Int64)).toInt32)), .val (.int ((1 : Int32) + (((((q3.toUInt64 >>> ((42 : Int32) &&& 0x3f).toInt64.toUInt64).toInt64) &&& (3 : Int64)).toInt32) &&& (1 : Int32)))), .val (.int ((((q1.toUInt64 >>> ((8 : Int32) &&& 0x3f).toInt64.toUInt64).toInt64) &&& (255 : Int64)).toInt32)), .val (.int (0 : Int32))] []))
    exact J4 _ (by rw [if_neg hc11]) _ _ X0 e0 N0
def F_rm1_2 (q1 : Int64) (q2 : Int64) (q3 : Int64) : Int32 := let w5 : Int32 := (if ((((((q3.toUInt64 >>> ((44 : Int32) &&& 0x3f).toInt64.toUInt64).toInt64) &&& (3 : Int64)).toInt32) % (3 : Int32)) < (1 : Int32)) then (0 : Int32) else ((((q1.toUInt64 >>> ((16 : Int32) &&& 0x3f).toInt64.toUInt64).toInt64) &&& (255 : Int64)).toInt32)); let w8 : Int32 := (if ((((((q3.toUInt64 >>> ((44 : Int32) &&& 0x3f).toInt64.toUInt64).toInt64) &&& (3 : Int64)).toInt32) % (3 : Int32)) < (2 : Int32)) then (0 : Int32) else ((((q2.toUInt64 >>> ((16 : Int32) &&& 0x3f).toInt64.toUInt64).toInt64) &&& (255 : Int64)).toInt32)); ((((((((q3.toUInt64 >>> ((44 : Int32) &&& 0x3f).toInt64.toUInt64).toInt64) &&& (3 : Int64)).toInt32) % (3 : Int32)) <<< ((16 : Int32) &&& 31)) ||| (w5 <<< ((8 : Int32) &&& 31))) ||| w8)
def Q_rm1_2 (Z : State) (q1 : Int64) (q2 : Int64) (q3 : Int64) (h0 : Heap) (n0 : Nat) (v : Option Value) (h : Heap) (L : List Loc) : Prop := v = some (.int (F_rm1_2 q1 q2 q3)) ∧ Fr n0 L ∧ h = h0
theorem ef_rm1_2 (m : MethodId) (x0 : Int64) (x1 : Int64) (x2 : Int64) : entryFrame m #[(.long x0), (.long x1), (.long x2), (.int (2 : Int32)), (.int (0 : Int32))] 12 = mkF m 0 #[.val (.long x0), .second, .val (.long x1), .second, .val (.long x2), .second, .val (.int (2 : Int32)), .val (.int (0 : Int32)), .unset, .unset, .unset, .unset] [] := by first | (simp [entryFrame, mkF, argsToLocals, Value.category]; done) | rfl
set_option maxRecDepth 65536 in
set_option maxHeartbeats 40000000 in
theorem rm1_2 (l : Launch) (Z : State) (a0 : Array Value) (hw : ∀ d ∈ tables_1, d.before a0 Z = true) (ws : List Jvm.Cond) (q1 : Int64) (q2 : Int64) (q3 : Int64) (h0 : Heap) (n0 : Nat) (Z0 : n0 ≤ h0.size)  :
    MetFree l (⟨"com/example/subjectory/subjectory/heading/ClassLinkEqualsPinLaw", "spec", "(JJJIZ)I"⟩ : MethodName) (head1 (Jvm.Cond.code (⟨"com/example/subjectory/subjectory/heading/ClassLinkEqualsPinLaw", "spec", "(JJJIZ)I"⟩ : MethodName) method_2_code 12 (some .int) :: ws) ({ frames := 0, cells := 0, slots := 0, locals := 0 } : Room)) (fun a U => a = #[(.long q1), (.long q2), (.long q3), (.int (2 : Int32)), (.int (0 : Int32))] ∧ Z.Warmed39 U.vm ∧ U.heap = h0) (fun _ _ _ _ _ => True) (fun _ U o U' => ∃ v L, o = .returned v ∧ Q_rm1_2 Z q1 q2 q3 h0 n0 v U'.heap L ∧ FrameEnd U o U' L ({ frames := 0, cells := 0, slots := 0, locals := 0 } : Room).cells ({ frames := 0, cells := 0, slots := 0, locals := 0 } : Room).slots) := by
  refine MetFree.of_bodySF (plainFor_of_name pn_2) hisR ?_
  intro p e s m args below meth c s₁ Bd hml0 hP hK
  obtain ⟨rfl, hZ, hh⟩ := hP
  have hx := Bd.exec
  have hby := Bd.bytes
  have hml : c.maxLocals = 12 := hml0
  have hown : s.vm.findClass "com/example/subjectory/subjectory/heading/ClassLinkEqualsPinLaw" = some m.cls := findClass_of_methodNamed Bd.named
  have hnm := (name_of_methodNamed Bd.named Bd.method).1
  have X0 : Stand p l e ({ frames := 0, cells := 0, slots := 0, locals := 0 } : Room) s m #[(.long q1), (.long q2), (.long q3), (.int (2 : Int32)), (.int (0 : Int32))] below meth c s₁ [] 0 0 := Stand.of_body Bd
  have e0 : s₁.heap = h0 := by rw [← hh, Bd.state]; rfl
  have N0 := Fr.nil n0
  show Run p e below s 0 0 (Q_rm1_2 Z q1 q2 q3 h0 n0) (s₁.setTop (entryFrame m #[(.long q1), (.long q2), (.long q3), (.int (2 : Int32)), (.int (0 : Int32))] 12))
  refine Run.go (fun _ k => castTop (ef_rm1_2 m q1 q2 q3) k) ?_
  show Run p e below s 0 0 (Q_rm1_2 Z q1 q2 q3 h0 n0) (s₁.setTop (mkF m 0 #[.val (.long q1), .second, .val (.long q2), .second, .val (.long q3), .second, .val (.int (2 : Int32)), .val (.int (0 : Int32)), .unset, .unset, .unset, .unset] []))
  refine Run.go (fun _ k => XS.lload X0.here hx rfl (hb hby d1_0) rfl  k) ?_
  show Run p e below s 0 0 (Q_rm1_2 Z q1 q2 q3 h0 n0) (s₁.setTop (mkF m 2 #[.val (.long q1), .second, .val (.long q2), .second, .val (.long q3), .second, .val (.int (2 : Int32)), .val (.int (0 : Int32)), .unset, .unset, .unset, .unset] [(.long q3)]))
  refine Run.go (fun _ k => XS.bipush X0.here hx rfl (hb hby d1_2) k) ?_
  show Run p e below s 0 0 (Q_rm1_2 Z q1 q2 q3 h0 n0) (s₁.setTop (mkF m 4 #[.val (.long q1), .second, .val (.long q2), .second, .val (.long q3), .second, .val (.int (2 : Int32)), .val (.int (0 : Int32)), .unset, .unset, .unset, .unset] [(.int (40 : Int32)), (.long q3)]))
  refine Run.go (fun _ k => XS.iconst X0.here hx rfl (hb hby d1_4) k) ?_
  show Run p e below s 0 0 (Q_rm1_2 Z q1 q2 q3 h0 n0) (s₁.setTop (mkF m 5 #[.val (.long q1), .second, .val (.long q2), .second, .val (.long q3), .second, .val (.int (2 : Int32)), .val (.int (0 : Int32)), .unset, .unset, .unset, .unset] [(.int (2 : Int32)), (.int (40 : Int32)), (.long q3)]))
  refine Run.go (fun _ k => XS.iload X0.here hx rfl (hb hby d1_5) rfl  k) ?_
  show Run p e below s 0 0 (Q_rm1_2 Z q1 q2 q3 h0 n0) (s₁.setTop (mkF m 7 #[.val (.long q1), .second, .val (.long q2), .second, .val (.long q3), .second, .val (.int (2 : Int32)), .val (.int (0 : Int32)), .unset, .unset, .unset, .unset] [(.int (2 : Int32)), (.int (2 : Int32)), (.int (40 : Int32)), (.long q3)]))
  refine Run.go (fun _ k => XS.imul X0.here hx rfl (hb hby d1_7) rfl k) ?_
  show Run p e below s 0 0 (Q_rm1_2 Z q1 q2 q3 h0 n0) (s₁.setTop (mkF m 8 #[.val (.long q1), .second, .val (.long q2), .second, .val (.long q3), .second, .val (.int (2 : Int32)), .val (.int (0 : Int32)), .unset, .unset, .unset, .unset] [(.int (4 : Int32)), (.int (40 : Int32)), (.long q3)]))
  refine Run.go (fun _ k => XS.iadd X0.here hx rfl (hb hby d1_8) rfl k) ?_
  show Run p e below s 0 0 (Q_rm1_2 Z q1 q2 q3 h0 n0) (s₁.setTop (mkF m 9 #[.val (.long q1), .second, .val (.long q2), .second, .val (.long q3), .second, .val (.int (2 : Int32)), .val (.int (0 : Int32)), .unset, .unset, .unset, .unset] [(.int (44 : Int32)), (.long q3)]))
  refine Run.go (fun _ k => XS.lushr X0.here hx rfl (hb hby d1_9) rfl k) ?_
  show Run p e below s 0 0 (Q_rm1_2 Z q1 q2 q3 h0 n0) (s₁.setTop (mkF m 10 #[.val (.long q1), .second, .val (.long q2), .second, .val (.long q3), .second, .val (.int (2 : Int32)), .val (.int (0 : Int32)), .unset, .unset, .unset, .unset] [(.long ((q3.toUInt64 >>> ((44 : Int32) &&& 0x3f).toInt64.toUInt64).toInt64))]))
  refine Run.go (fun _ k => X0.ldc2Long hx hown (mvT hZ (hw _ (List.mem_of_getElem? (i := 4) rfl))) (g := (mkF m 10 #[.val (.long q1), .second, .val (.long q2), .second, .val (.long q3), .second, .val (.int (2 : Int32)), .val (.int (0 : Int32)), .unset, .unset, .unset, .unset] [(.long ((q3.toUInt64 >>> ((44 : Int32) &&& 0x3f).toInt64.toUInt64).toInt64))])) rfl (hb hby d1_10) _ k) ?_
  show Run p e below s 0 0 (Q_rm1_2 Z q1 q2 q3 h0 n0) (s₁.setTop (mkF m 13 #[.val (.long q1), .second, .val (.long q2), .second, .val (.long q3), .second, .val (.int (2 : Int32)), .val (.int (0 : Int32)), .unset, .unset, .unset, .unset] [(.long (3 : Int64)), (.long ((q3.toUInt64 >>> ((44 : Int32) &&& 0x3f).toInt64.toUInt64).toInt64))]))
  refine Run.go (fun _ k => XS.land X0.here hx rfl (hb hby d1_13) rfl k) ?_
  show Run p e below s 0 0 (Q_rm1_2 Z q1 q2 q3 h0 n0) (s₁.setTop (mkF m 14 #[.val (.long q1), .second, .val (.long q2), .second, .val (.long q3), .second, .val (.int (2 : Int32)), .val (.int (0 : Int32)), .unset, .unset, .unset, .unset] [(.long (((q3.toUInt64 >>> ((44 : Int32) &&& 0x3f).toInt64.toUInt64).toInt64) &&& (3 : Int64)))]))
  refine Run.go (fun _ k => XS.l2i X0.here hx rfl (hb hby d1_14) rfl k) ?_
  show Run p e below s 0 0 (Q_rm1_2 Z q1 q2 q3 h0 n0) (s₁.setTop (mkF m 15 #[.val (.long q1), .second, .val (.long q2), .second, .val (.long q3), .second, .val (.int (2 : Int32)), .val (.int (0 : Int32)), .unset, .unset, .unset, .unset] [(.int ((((q3.toUInt64 >>> ((44 : Int32) &&& 0x3f).toInt64.toUInt64).toInt64) &&& (3 : Int64)).toInt32))]))
  refine Run.go (fun _ k => XS.istore X0.here hx rfl (hb hby d1_15) rfl (l' := #[.val (.long q1), .second, .val (.long q2), .second, .val (.long q3), .second, .val (.int (2 : Int32)), .val (.int (0 : Int32)), .val (.int ((((q3.toUInt64 >>> ((44 : Int32) &&& 0x3f).toInt64.toUInt64).toInt64) &&& (3 : Int64)).toInt32)), .unset, .unset, .unset]) rfl k) ?_
  show Run p e below s 0 0 (Q_rm1_2 Z q1 q2 q3 h0 n0) (s₁.setTop (mkF m 17 #[.val (.long q1), .second, .val (.long q2), .second, .val (.long q3), .second, .val (.int (2 : Int32)), .val (.int (0 : Int32)), .val (.int ((((q3.toUInt64 >>> ((44 : Int32) &&& 0x3f).toInt64.toUInt64).toInt64) &&& (3 : Int64)).toInt32)), .unset, .unset, .unset] []))
  refine Run.go (fun _ k => XS.iload X0.here hx rfl (hb hby d1_17) rfl  k) ?_
  show Run p e below s 0 0 (Q_rm1_2 Z q1 q2 q3 h0 n0) (s₁.setTop (mkF m 19 #[.val (.long q1), .second, .val (.long q2), .second, .val (.long q3), .second, .val (.int (2 : Int32)), .val (.int (0 : Int32)), .val (.int ((((q3.toUInt64 >>> ((44 : Int32) &&& 0x3f).toInt64.toUInt64).toInt64) &&& (3 : Int64)).toInt32)), .unset, .unset, .unset] [(.int (0 : Int32))]))
  refine Run.go (fun _ k => XS.ifYes X0.here hx rfl (pc0 := 19) (pc' := 33) rfl (hb hby d1_19) rfl ((if0 _ _).trans (teq (rfl : (0 : Int32) = (0 : Int32))).1) (by decide) (by decide) k) ?_
  show Run p e below s 0 0 (Q_rm1_2 Z q1 q2 q3 h0 n0) (s₁.setTop (mkF m 33 #[.val (.long q1), .second, .val (.long q2), .second, .val (.long q3), .second, .val (.int (2 : Int32)), .val (.int (0 : Int32)), .val (.int ((((q3.toUInt64 >>> ((44 : Int32) &&& 0x3f).toInt64.toUInt64).toInt64) &&& (3 : Int64)).toInt32)), .unset, .unset, .unset] []))
  refine Run.go (fun _ k => XS.iload X0.here hx rfl (hb hby d1_33) rfl  k) ?_
  show Run p e below s 0 0 (Q_rm1_2 Z q1 q2 q3 h0 n0) (s₁.setTop (mkF m 35 #[.val (.long q1), .second, .val (.long q2), .second, .val (.long q3), .second, .val (.int (2 : Int32)), .val (.int (0 : Int32)), .val (.int ((((q3.toUInt64 >>> ((44 : Int32) &&& 0x3f).toInt64.toUInt64).toInt64) &&& (3 : Int64)).toInt32)), .unset, .unset, .unset] [(.int ((((q3.toUInt64 >>> ((44 : Int32) &&& 0x3f).toInt64.toUInt64).toInt64) &&& (3 : Int64)).toInt32))]))
  refine Run.go (fun _ k => XS.iconst X0.here hx rfl (hb hby d1_35) k) ?_
  show Run p e below s 0 0 (Q_rm1_2 Z q1 q2 q3 h0 n0) (s₁.setTop (mkF m 36 #[.val (.long q1), .second, .val (.long q2), .second, .val (.long q3), .second, .val (.int (2 : Int32)), .val (.int (0 : Int32)), .val (.int ((((q3.toUInt64 >>> ((44 : Int32) &&& 0x3f).toInt64.toUInt64).toInt64) &&& (3 : Int64)).toInt32)), .unset, .unset, .unset] [(.int (3 : Int32)), (.int ((((q3.toUInt64 >>> ((44 : Int32) &&& 0x3f).toInt64.toUInt64).toInt64) &&& (3 : Int64)).toInt32))]))
  refine Run.go (fun _ k => iremM X0 hx rfl (hb hby d1_36) rfl (by decide) k) ?_
  show Run p e below s 0 0 (Q_rm1_2 Z q1 q2 q3 h0 n0) (s₁.setTop (mkF m 37 #[.val (.long q1), .second, .val (.long q2), .second, .val (.long q3), .second, .val (.int (2 : Int32)), .val (.int (0 : Int32)), .val (.int ((((q3.toUInt64 >>> ((44 : Int32) &&& 0x3f).toInt64.toUInt64).toInt64) &&& (3 : Int64)).toInt32)), .unset, .unset, .unset] [(.int (((((q3.toUInt64 >>> ((44 : Int32) &&& 0x3f).toInt64.toUInt64).toInt64) &&& (3 : Int64)).toInt32) % (3 : Int32)))]))
  refine Run.go (fun _ k => XS.istore X0.here hx rfl (hb hby d1_37) rfl (l' := #[.val (.long q1), .second, .val (.long q2), .second, .val (.long q3), .second, .val (.int (2 : Int32)), .val (.int (0 : Int32)), .val (.int ((((q3.toUInt64 >>> ((44 : Int32) &&& 0x3f).toInt64.toUInt64).toInt64) &&& (3 : Int64)).toInt32)), .val (.int (((((q3.toUInt64 >>> ((44 : Int32) &&& 0x3f).toInt64.toUInt64).toInt64) &&& (3 : Int64)).toInt32) % (3 : Int32))), .unset, .unset]) rfl k) ?_
  show Run p e below s 0 0 (Q_rm1_2 Z q1 q2 q3 h0 n0) (s₁.setTop (mkF m 39 #[.val (.long q1), .second, .val (.long q2), .second, .val (.long q3), .second, .val (.int (2 : Int32)), .val (.int (0 : Int32)), .val (.int ((((q3.toUInt64 >>> ((44 : Int32) &&& 0x3f).toInt64.toUInt64).toInt64) &&& (3 : Int64)).toInt32)), .val (.int (((((q3.toUInt64 >>> ((44 : Int32) &&& 0x3f).toInt64.toUInt64).toInt64) &&& (3 : Int64)).toInt32) % (3 : Int32))), .unset, .unset] []))
  refine Run.go (fun _ k => XS.iconst X0.here hx rfl (hb hby d1_39) k) ?_
  show Run p e below s 0 0 (Q_rm1_2 Z q1 q2 q3 h0 n0) (s₁.setTop (mkF m 40 #[.val (.long q1), .second, .val (.long q2), .second, .val (.long q3), .second, .val (.int (2 : Int32)), .val (.int (0 : Int32)), .val (.int ((((q3.toUInt64 >>> ((44 : Int32) &&& 0x3f).toInt64.toUInt64).toInt64) &&& (3 : Int64)).toInt32)), .val (.int (((((q3.toUInt64 >>> ((44 : Int32) &&& 0x3f).toInt64.toUInt64).toInt64) &&& (3 : Int64)).toInt32) % (3 : Int32))), .unset, .unset] [(.int (0 : Int32))]))
  refine Run.go (fun _ k => XS.istore X0.here hx rfl (hb hby d1_40) rfl (l' := #[.val (.long q1), .second, .val (.long q2), .second, .val (.long q3), .second, .val (.int (2 : Int32)), .val (.int (0 : Int32)), .val (.int ((((q3.toUInt64 >>> ((44 : Int32) &&& 0x3f).toInt64.toUInt64).toInt64) &&& (3 : Int64)).toInt32)), .val (.int (((((q3.toUInt64 >>> ((44 : Int32) &&& 0x3f).toInt64.toUInt64).toInt64) &&& (3 : Int64)).toInt32) % (3 : Int32))), .val (.int (0 : Int32)), .unset]) rfl k) ?_
  show Run p e below s 0 0 (Q_rm1_2 Z q1 q2 q3 h0 n0) (s₁.setTop (mkF m 42 #[.val (.long q1), .second, .val (.long q2), .second, .val (.long q3), .second, .val (.int (2 : Int32)), .val (.int (0 : Int32)), .val (.int ((((q3.toUInt64 >>> ((44 : Int32) &&& 0x3f).toInt64.toUInt64).toInt64) &&& (3 : Int64)).toInt32)), .val (.int (((((q3.toUInt64 >>> ((44 : Int32) &&& 0x3f).toInt64.toUInt64).toInt64) &&& (3 : Int64)).toInt32) % (3 : Int32))), .val (.int (0 : Int32)), .unset] []))
  refine Run.go (fun _ k => XS.iconst X0.here hx rfl (hb hby d1_42) k) ?_
  show Run p e below s 0 0 (Q_rm1_2 Z q1 q2 q3 h0 n0) (s₁.setTop (mkF m 43 #[.val (.long q1), .second, .val (.long q2), .second, .val (.long q3), .second, .val (.int (2 : Int32)), .val (.int (0 : Int32)), .val (.int ((((q3.toUInt64 >>> ((44 : Int32) &&& 0x3f).toInt64.toUInt64).toInt64) &&& (3 : Int64)).toInt32)), .val (.int (((((q3.toUInt64 >>> ((44 : Int32) &&& 0x3f).toInt64.toUInt64).toInt64) &&& (3 : Int64)).toInt32) % (3 : Int32))), .val (.int (0 : Int32)), .unset] [(.int (0 : Int32))]))
  refine Run.go (fun _ k => XS.istore X0.here hx rfl (hb hby d1_43) rfl (l' := #[.val (.long q1), .second, .val (.long q2), .second, .val (.long q3), .second, .val (.int (2 : Int32)), .val (.int (0 : Int32)), .val (.int ((((q3.toUInt64 >>> ((44 : Int32) &&& 0x3f).toInt64.toUInt64).toInt64) &&& (3 : Int64)).toInt32)), .val (.int (((((q3.toUInt64 >>> ((44 : Int32) &&& 0x3f).toInt64.toUInt64).toInt64) &&& (3 : Int64)).toInt32) % (3 : Int32))), .val (.int (0 : Int32)), .val (.int (0 : Int32))]) rfl k) ?_
  show Run p e below s 0 0 (Q_rm1_2 Z q1 q2 q3 h0 n0) (s₁.setTop (mkF m 45 #[.val (.long q1), .second, .val (.long q2), .second, .val (.long q3), .second, .val (.int (2 : Int32)), .val (.int (0 : Int32)), .val (.int ((((q3.toUInt64 >>> ((44 : Int32) &&& 0x3f).toInt64.toUInt64).toInt64) &&& (3 : Int64)).toInt32)), .val (.int (((((q3.toUInt64 >>> ((44 : Int32) &&& 0x3f).toInt64.toUInt64).toInt64) &&& (3 : Int64)).toInt32) % (3 : Int32))), .val (.int (0 : Int32)), .val (.int (0 : Int32))] []))
  refine Run.go (fun _ k => XS.iload X0.here hx rfl (hb hby d1_45) rfl  k) ?_
  show Run p e below s 0 0 (Q_rm1_2 Z q1 q2 q3 h0 n0) (s₁.setTop (mkF m 47 #[.val (.long q1), .second, .val (.long q2), .second, .val (.long q3), .second, .val (.int (2 : Int32)), .val (.int (0 : Int32)), .val (.int ((((q3.toUInt64 >>> ((44 : Int32) &&& 0x3f).toInt64.toUInt64).toInt64) &&& (3 : Int64)).toInt32)), .val (.int (((((q3.toUInt64 >>> ((44 : Int32) &&& 0x3f).toInt64.toUInt64).toInt64) &&& (3 : Int64)).toInt32) % (3 : Int32))), .val (.int (0 : Int32)), .val (.int (0 : Int32))] [(.int (((((q3.toUInt64 >>> ((44 : Int32) &&& 0x3f).toInt64.toUInt64).toInt64) &&& (3 : Int64)).toInt32) % (3 : Int32)))]))
  refine Run.go (fun _ k => XS.iconst X0.here hx rfl (hb hby d1_47) k) ?_
  show Run p e below s 0 0 (Q_rm1_2 Z q1 q2 q3 h0 n0) (s₁.setTop (mkF m 48 #[.val (.long q1), .second, .val (.long q2), .second, .val (.long q3), .second, .val (.int (2 : Int32)), .val (.int (0 : Int32)), .val (.int ((((q3.toUInt64 >>> ((44 : Int32) &&& 0x3f).toInt64.toUInt64).toInt64) &&& (3 : Int64)).toInt32)), .val (.int (((((q3.toUInt64 >>> ((44 : Int32) &&& 0x3f).toInt64.toUInt64).toInt64) &&& (3 : Int64)).toInt32) % (3 : Int32))), .val (.int (0 : Int32)), .val (.int (0 : Int32))] [(.int (1 : Int32)), (.int (((((q3.toUInt64 >>> ((44 : Int32) &&& 0x3f).toInt64.toUInt64).toInt64) &&& (3 : Int64)).toInt32) % (3 : Int32)))]))
  have J4 : ∀ (w5 : Int32) (hw5 : w5 = (if ((((((q3.toUInt64 >>> ((44 : Int32) &&& 0x3f).toInt64.toUInt64).toInt64) &&& (3 : Int64)).toInt32) % (3 : Int32)) < (1 : Int32)) then (0 : Int32) else ((((q1.toUInt64 >>> ((16 : Int32) &&& 0x3f).toInt64.toUInt64).toInt64) &&& (255 : Int64)).toInt32))) (T6 : State) (L6 : List Loc) (X6 : Stand p l e ({ frames := 0, cells := 0, slots := 0, locals := 0 } : Room) s m #[(.long q1), (.long q2), (.long q3), (.int (2 : Int32)), (.int (0 : Int32))] below meth c T6 L6 0 0) (e6 : T6.heap = h0) (N6 : Fr n0 L6), Run p e below s 0 0 (Q_rm1_2 Z q1 q2 q3 h0 n0) (T6.setTop (mkF m 65 #[.val (.long q1), .second, .val (.long q2), .second, .val (.long q3), .second, .val (.int (2 : Int32)), .val (.int (0 : Int32)), .val (.int ((((q3.toUInt64 >>> ((44 : Int32) &&& 0x3f).toInt64.toUInt64).toInt64) &&& (3 : Int64)).toInt32)), .val (.int (((((q3.toUInt64 >>> ((44 : Int32) &&& 0x3f).toInt64.toUInt64).toInt64) &&& (3 : Int64)).toInt32) % (3 : Int32))), .val (.int w5), .val (.int (0 : Int32))] [])) := by
    intro w5 hw5 T6 L6 X6 e6 N6
    show Run p e below s 0 0 (Q_rm1_2 Z q1 q2 q3 h0 n0) (T6.setTop (mkF m 65 #[.val (.long q1), .second, .val (.long q2), .second, .val (.long q3), .second, .val (.int (2 : Int32)), .val (.int (0 : Int32)), .val (.int ((((q3.toUInt64 >>> ((44 : Int32) &&& 0x3f).toInt64.toUInt64).toInt64) &&& (3 : Int64)).toInt32)), .val (.int (((((q3.toUInt64 >>> ((44 : Int32) &&& 0x3f).toInt64.toUInt64).toInt64) &&& (3 : Int64)).toInt32) % (3 : Int32))), .val (.int w5), .val (.int (0 : Int32))] []))
    refine Run.go (fun _ k => XS.iload X6.here hx rfl (hb hby d1_65) rfl  k) ?_
    show Run p e below s 0 0 (Q_rm1_2 Z q1 q2 q3 h0 n0) (T6.setTop (mkF m 67 #[.val (.long q1), .second, .val (.long q2), .second, .val (.long q3), .second, .val (.int (2 : Int32)), .val (.int (0 : Int32)), .val (.int ((((q3.toUInt64 >>> ((44 : Int32) &&& 0x3f).toInt64.toUInt64).toInt64) &&& (3 : Int64)).toInt32)), .val (.int (((((q3.toUInt64 >>> ((44 : Int32) &&& 0x3f).toInt64.toUInt64).toInt64) &&& (3 : Int64)).toInt32) % (3 : Int32))), .val (.int w5), .val (.int (0 : Int32))] [(.int (((((q3.toUInt64 >>> ((44 : Int32) &&& 0x3f).toInt64.toUInt64).toInt64) &&& (3 : Int64)).toInt32) % (3 : Int32)))]))
    refine Run.go (fun _ k => XS.iconst X6.here hx rfl (hb hby d1_67) k) ?_
    show Run p e below s 0 0 (Q_rm1_2 Z q1 q2 q3 h0 n0) (T6.setTop (mkF m 68 #[.val (.long q1), .second, .val (.long q2), .second, .val (.long q3), .second, .val (.int (2 : Int32)), .val (.int (0 : Int32)), .val (.int ((((q3.toUInt64 >>> ((44 : Int32) &&& 0x3f).toInt64.toUInt64).toInt64) &&& (3 : Int64)).toInt32)), .val (.int (((((q3.toUInt64 >>> ((44 : Int32) &&& 0x3f).toInt64.toUInt64).toInt64) &&& (3 : Int64)).toInt32) % (3 : Int32))), .val (.int w5), .val (.int (0 : Int32))] [(.int (2 : Int32)), (.int (((((q3.toUInt64 >>> ((44 : Int32) &&& 0x3f).toInt64.toUInt64).toInt64) &&& (3 : Int64)).toInt32) % (3 : Int32)))]))
    have J7 : ∀ (w8 : Int32) (hw8 : w8 = (if ((((((q3.toUInt64 >>> ((44 : Int32) &&& 0x3f).toInt64.toUInt64).toInt64) &&& (3 : Int64)).toInt32) % (3 : Int32)) < (2 : Int32)) then (0 : Int32) else ((((q2.toUInt64 >>> ((16 : Int32) &&& 0x3f).toInt64.toUInt64).toInt64) &&& (255 : Int64)).toInt32))) (T9 : State) (L9 : List Loc) (X9 : Stand p l e ({ frames := 0, cells := 0, slots := 0, locals := 0 } : Room) s m #[(.long q1), (.long q2), (.long q3), (.int (2 : Int32)), (.int (0 : Int32))] below meth c T9 L9 0 0) (e9 : T9.heap = h0) (N9 : Fr n0 L9), Run p e below s 0 0 (Q_rm1_2 Z q1 q2 q3 h0 n0) (T9.setTop (mkF m 85 #[.val (.long q1), .second, .val (.long q2), .second, .val (.long q3), .second, .val (.int (2 : Int32)), .val (.int (0 : Int32)), .val (.int ((((q3.toUInt64 >>> ((44 : Int32) &&& 0x3f).toInt64.toUInt64).toInt64) &&& (3 : Int64)).toInt32)), .val (.int (((((q3.toUInt64 >>> ((44 : Int32) &&& 0x3f).toInt64.toUInt64).toInt64) &&& (3 : Int64)).toInt32) % (3 : Int32))), .val (.int w5), .val (.int w8)] [])) := by
      intro w8 hw8 T9 L9 X9 e9 N9
      show Run p e below s 0 0 (Q_rm1_2 Z q1 q2 q3 h0 n0) (T9.setTop (mkF m 85 #[.val (.long q1), .second, .val (.long q2), .second, .val (.long q3), .second, .val (.int (2 : Int32)), .val (.int (0 : Int32)), .val (.int ((((q3.toUInt64 >>> ((44 : Int32) &&& 0x3f).toInt64.toUInt64).toInt64) &&& (3 : Int64)).toInt32)), .val (.int (((((q3.toUInt64 >>> ((44 : Int32) &&& 0x3f).toInt64.toUInt64).toInt64) &&& (3 : Int64)).toInt32) % (3 : Int32))), .val (.int w5), .val (.int w8)] []))
      refine Run.go (fun _ k => XS.iload X9.here hx rfl (hb hby d1_85) rfl  k) ?_
      show Run p e below s 0 0 (Q_rm1_2 Z q1 q2 q3 h0 n0) (T9.setTop (mkF m 87 #[.val (.long q1), .second, .val (.long q2), .second, .val (.long q3), .second, .val (.int (2 : Int32)), .val (.int (0 : Int32)), .val (.int ((((q3.toUInt64 >>> ((44 : Int32) &&& 0x3f).toInt64.toUInt64).toInt64) &&& (3 : Int64)).toInt32)), .val (.int (((((q3.toUInt64 >>> ((44 : Int32) &&& 0x3f).toInt64.toUInt64).toInt64) &&& (3 : Int64)).toInt32) % (3 : Int32))), .val (.int w5), .val (.int w8)] [(.int (((((q3.toUInt64 >>> ((44 : Int32) &&& 0x3f).toInt64.toUInt64).toInt64) &&& (3 : Int64)).toInt32) % (3 : Int32)))]))
      refine Run.go (fun _ k => XS.bipush X9.here hx rfl (hb hby d1_87) k) ?_
      show Run p e below s 0 0 (Q_rm1_2 Z q1 q2 q3 h0 n0) (T9.setTop (mkF m 89 #[.val (.long q1), .second, .val (.long q2), .second, .val (.long q3), .second, .val (.int (2 : Int32)), .val (.int (0 : Int32)), .val (.int ((((q3.toUInt64 >>> ((44 : Int32) &&& 0x3f).toInt64.toUInt64).toInt64) &&& (3 : Int64)).toInt32)), .val (.int (((((q3.toUInt64 >>> ((44 : Int32) &&& 0x3f).toInt64.toUInt64).toInt64) &&& (3 : Int64)).toInt32) % (3 : Int32))), .val (.int w5), .val (.int w8)] [(.int (16 : Int32)), (.int (((((q3.toUInt64 >>> ((44 : Int32) &&& 0x3f).toInt64.toUInt64).toInt64) &&& (3 : Int64)).toInt32) % (3 : Int32)))]))
      refine Run.go (fun _ k => XS.ishl X9.here hx rfl (hb hby d1_89) rfl k) ?_
      show Run p e below s 0 0 (Q_rm1_2 Z q1 q2 q3 h0 n0) (T9.setTop (mkF m 90 #[.val (.long q1), .second, .val (.long q2), .second, .val (.long q3), .second, .val (.int (2 : Int32)), .val (.int (0 : Int32)), .val (.int ((((q3.toUInt64 >>> ((44 : Int32) &&& 0x3f).toInt64.toUInt64).toInt64) &&& (3 : Int64)).toInt32)), .val (.int (((((q3.toUInt64 >>> ((44 : Int32) &&& 0x3f).toInt64.toUInt64).toInt64) &&& (3 : Int64)).toInt32) % (3 : Int32))), .val (.int w5), .val (.int w8)] [(.int ((((((q3.toUInt64 >>> ((44 : Int32) &&& 0x3f).toInt64.toUInt64).toInt64) &&& (3 : Int64)).toInt32) % (3 : Int32)) <<< ((16 : Int32) &&& 31)))]))
      refine Run.go (fun _ k => XS.iload X9.here hx rfl (hb hby d1_90) rfl  k) ?_
      show Run p e below s 0 0 (Q_rm1_2 Z q1 q2 q3 h0 n0) (T9.setTop (mkF m 92 #[.val (.long q1), .second, .val (.long q2), .second, .val (.long q3), .second, .val (.int (2 : Int32)), .val (.int (0 : Int32)), .val (.int ((((q3.toUInt64 >>> ((44 : Int32) &&& 0x3f).toInt64.toUInt64).toInt64) &&& (3 : Int64)).toInt32)), .val (.int (((((q3.toUInt64 >>> ((44 : Int32) &&& 0x3f).toInt64.toUInt64).toInt64) &&& (3 : Int64)).toInt32) % (3 : Int32))), .val (.int w5), .val (.int w8)] [(.int w5), (.int ((((((q3.toUInt64 >>> ((44 : Int32) &&& 0x3f).toInt64.toUInt64).toInt64) &&& (3 : Int64)).toInt32) % (3 : Int32)) <<< ((16 : Int32) &&& 31)))]))
      refine Run.go (fun _ k => XS.bipush X9.here hx rfl (hb hby d1_92) k) ?_
      show Run p e below s 0 0 (Q_rm1_2 Z q1 q2 q3 h0 n0) (T9.setTop (mkF m 94 #[.val (.long q1), .second, .val (.long q2), .second, .val (.long q3), .second, .val (.int (2 : Int32)), .val (.int (0 : Int32)), .val (.int ((((q3.toUInt64 >>> ((44 : Int32) &&& 0x3f).toInt64.toUInt64).toInt64) &&& (3 : Int64)).toInt32)), .val (.int (((((q3.toUInt64 >>> ((44 : Int32) &&& 0x3f).toInt64.toUInt64).toInt64) &&& (3 : Int64)).toInt32) % (3 : Int32))), .val (.int w5), .val (.int w8)] [(.int (8 : Int32)), (.int w5), (.int ((((((q3.toUInt64 >>> ((44 : Int32) &&& 0x3f).toInt64.toUInt64).toInt64) &&& (3 : Int64)).toInt32) % (3 : Int32)) <<< ((16 : Int32) &&& 31)))]))
      refine Run.go (fun _ k => XS.ishl X9.here hx rfl (hb hby d1_94) rfl k) ?_
      show Run p e below s 0 0 (Q_rm1_2 Z q1 q2 q3 h0 n0) (T9.setTop (mkF m 95 #[.val (.long q1), .second, .val (.long q2), .second, .val (.long q3), .second, .val (.int (2 : Int32)), .val (.int (0 : Int32)), .val (.int ((((q3.toUInt64 >>> ((44 : Int32) &&& 0x3f).toInt64.toUInt64).toInt64) &&& (3 : Int64)).toInt32)), .val (.int (((((q3.toUInt64 >>> ((44 : Int32) &&& 0x3f).toInt64.toUInt64).toInt64) &&& (3 : Int64)).toInt32) % (3 : Int32))), .val (.int w5), .val (.int w8)] [(.int (w5 <<< ((8 : Int32) &&& 31))), (.int ((((((q3.toUInt64 >>> ((44 : Int32) &&& 0x3f).toInt64.toUInt64).toInt64) &&& (3 : Int64)).toInt32) % (3 : Int32)) <<< ((16 : Int32) &&& 31)))]))
      refine Run.go (fun _ k => XS.ior X9.here hx rfl (hb hby d1_95) rfl k) ?_
      show Run p e below s 0 0 (Q_rm1_2 Z q1 q2 q3 h0 n0) (T9.setTop (mkF m 96 #[.val (.long q1), .second, .val (.long q2), .second, .val (.long q3), .second, .val (.int (2 : Int32)), .val (.int (0 : Int32)), .val (.int ((((q3.toUInt64 >>> ((44 : Int32) &&& 0x3f).toInt64.toUInt64).toInt64) &&& (3 : Int64)).toInt32)), .val (.int (((((q3.toUInt64 >>> ((44 : Int32) &&& 0x3f).toInt64.toUInt64).toInt64) &&& (3 : Int64)).toInt32) % (3 : Int32))), .val (.int w5), .val (.int w8)] [(.int (((((((q3.toUInt64 >>> ((44 : Int32) &&& 0x3f).toInt64.toUInt64).toInt64) &&& (3 : Int64)).toInt32) % (3 : Int32)) <<< ((16 : Int32) &&& 31)) ||| (w5 <<< ((8 : Int32) &&& 31))))]))
      refine Run.go (fun _ k => XS.iload X9.here hx rfl (hb hby d1_96) rfl  k) ?_
      show Run p e below s 0 0 (Q_rm1_2 Z q1 q2 q3 h0 n0) (T9.setTop (mkF m 98 #[.val (.long q1), .second, .val (.long q2), .second, .val (.long q3), .second, .val (.int (2 : Int32)), .val (.int (0 : Int32)), .val (.int ((((q3.toUInt64 >>> ((44 : Int32) &&& 0x3f).toInt64.toUInt64).toInt64) &&& (3 : Int64)).toInt32)), .val (.int (((((q3.toUInt64 >>> ((44 : Int32) &&& 0x3f).toInt64.toUInt64).toInt64) &&& (3 : Int64)).toInt32) % (3 : Int32))), .val (.int w5), .val (.int w8)] [(.int w8), (.int (((((((q3.toUInt64 >>> ((44 : Int32) &&& 0x3f).toInt64.toUInt64).toInt64) &&& (3 : Int64)).toInt32) % (3 : Int32)) <<< ((16 : Int32) &&& 31)) ||| (w5 <<< ((8 : Int32) &&& 31))))]))
      refine Run.go (fun _ k => XS.ior X9.here hx rfl (hb hby d1_98) rfl k) ?_
      show Run p e below s 0 0 (Q_rm1_2 Z q1 q2 q3 h0 n0) (T9.setTop (mkF m 99 #[.val (.long q1), .second, .val (.long q2), .second, .val (.long q3), .second, .val (.int (2 : Int32)), .val (.int (0 : Int32)), .val (.int ((((q3.toUInt64 >>> ((44 : Int32) &&& 0x3f).toInt64.toUInt64).toInt64) &&& (3 : Int64)).toInt32)), .val (.int (((((q3.toUInt64 >>> ((44 : Int32) &&& 0x3f).toInt64.toUInt64).toInt64) &&& (3 : Int64)).toInt32) % (3 : Int32))), .val (.int w5), .val (.int w8)] [(.int ((((((((q3.toUInt64 >>> ((44 : Int32) &&& 0x3f).toInt64.toUInt64).toInt64) &&& (3 : Int64)).toInt32) % (3 : Int32)) <<< ((16 : Int32) &&& 31)) ||| (w5 <<< ((8 : Int32) &&& 31))) ||| w8))]))
      refine Run.retI X9 hx Bd.returns Bd.notSynchronized (hb hby d1_99) (by decide) (by decide) ?_
      show Q_rm1_2 Z q1 q2 q3 h0 n0 _ T9.heap _
      exact ⟨congrArg some (congrArg Value.int (show ((((((((q3.toUInt64 >>> ((44 : Int32) &&& 0x3f).toInt64.toUInt64).toInt64) &&& (3 : Int64)).toInt32) % (3 : Int32)) <<< ((16 : Int32) &&& 31)) ||| (w5 <<< ((8 : Int32) &&& 31))) ||| w8) = (F_rm1_2 q1 q2 q3) from (by subst hw8; subst hw5; unfold F_rm1_2; rfl))), N9, e9⟩
    by_cases hc10 : ((((((q3.toUInt64 >>> ((44 : Int32) &&& 0x3f).toInt64.toUInt64).toInt64) &&& (3 : Int64)).toInt32) % (3 : Int32)) < (2 : Int32))
    · refine Run.go (fun _ k => XS.icmpYes X6.here hx rfl (pc0 := 68) (pc' := 85) rfl (hb hby d1_68) rfl (tlt hc10).1 (by decide) (by decide) k) ?_
      show Run p e below s 0 0 (Q_rm1_2 Z q1 q2 q3 h0 n0) (T6.setTop (mkF m 85 #[.val (.long q1), .second, .val (.long q2), .second, .val (.long q3), .second, .val (.int (2 : Int32)), .val (.int (0 : Int32)), .val (.int ((((q3.toUInt64 >>> ((44 : Int32) &&& 0x3f).toInt64.toUInt64).toInt64) &&& (3 : Int64)).toInt32)), .val (.int (((((q3.toUInt64 >>> ((44 : Int32) &&& 0x3f).toInt64.toUInt64).toInt64) &&& (3 : Int64)).toInt32) % (3 : Int32))), .val (.int w5), .val (.int (0 : Int32))] []))
      exact J7 _ (by rw [if_pos hc10]) _ _ X6 e6 N6
    · refine Run.go (fun _ k => XS.icmpNo X6.here hx rfl (hb hby d1_68) rfl (flt hc10).1 k) ?_
      show Run p e below s 0 0 (Q_rm1_2 Z q1 q2 q3 h0 n0) (T6.setTop (mkF m 71 #[.val (.long q1), .second, .val (.long q2), .second, .val (.long q3), .second, .val (.int (2 : Int32)), .val (.int (0 : Int32)), .val (.int ((((q3.toUInt64 >>> ((44 : Int32) &&& 0x3f).toInt64.toUInt64).toInt64) &&& (3 : Int64)).toInt32)), .val (.int (((((q3.toUInt64 >>> ((44 : Int32) &&& 0x3f).toInt64.toUInt64).toInt64) &&& (3 : Int64)).toInt32) % (3 : Int32))), .val (.int w5), .val (.int (0 : Int32))] []))
      refine Run.go (fun _ k => XS.lloadN X6.here hx rfl (hb hby d1_71) rfl  k) ?_
      show Run p e below s 0 0 (Q_rm1_2 Z q1 q2 q3 h0 n0) (T6.setTop (mkF m 72 #[.val (.long q1), .second, .val (.long q2), .second, .val (.long q3), .second, .val (.int (2 : Int32)), .val (.int (0 : Int32)), .val (.int ((((q3.toUInt64 >>> ((44 : Int32) &&& 0x3f).toInt64.toUInt64).toInt64) &&& (3 : Int64)).toInt32)), .val (.int (((((q3.toUInt64 >>> ((44 : Int32) &&& 0x3f).toInt64.toUInt64).toInt64) &&& (3 : Int64)).toInt32) % (3 : Int32))), .val (.int w5), .val (.int (0 : Int32))] [(.long q2)]))
      refine Run.go (fun _ k => XS.bipush X6.here hx rfl (hb hby d1_72) k) ?_
      show Run p e below s 0 0 (Q_rm1_2 Z q1 q2 q3 h0 n0) (T6.setTop (mkF m 74 #[.val (.long q1), .second, .val (.long q2), .second, .val (.long q3), .second, .val (.int (2 : Int32)), .val (.int (0 : Int32)), .val (.int ((((q3.toUInt64 >>> ((44 : Int32) &&& 0x3f).toInt64.toUInt64).toInt64) &&& (3 : Int64)).toInt32)), .val (.int (((((q3.toUInt64 >>> ((44 : Int32) &&& 0x3f).toInt64.toUInt64).toInt64) &&& (3 : Int64)).toInt32) % (3 : Int32))), .val (.int w5), .val (.int (0 : Int32))] [(.int (8 : Int32)), (.long q2)]))
      refine Run.go (fun _ k => XS.iload X6.here hx rfl (hb hby d1_74) rfl  k) ?_
      show Run p e below s 0 0 (Q_rm1_2 Z q1 q2 q3 h0 n0) (T6.setTop (mkF m 76 #[.val (.long q1), .second, .val (.long q2), .second, .val (.long q3), .second, .val (.int (2 : Int32)), .val (.int (0 : Int32)), .val (.int ((((q3.toUInt64 >>> ((44 : Int32) &&& 0x3f).toInt64.toUInt64).toInt64) &&& (3 : Int64)).toInt32)), .val (.int (((((q3.toUInt64 >>> ((44 : Int32) &&& 0x3f).toInt64.toUInt64).toInt64) &&& (3 : Int64)).toInt32) % (3 : Int32))), .val (.int w5), .val (.int (0 : Int32))] [(.int (2 : Int32)), (.int (8 : Int32)), (.long q2)]))
      refine Run.go (fun _ k => XS.imul X6.here hx rfl (hb hby d1_76) rfl k) ?_
      show Run p e below s 0 0 (Q_rm1_2 Z q1 q2 q3 h0 n0) (T6.setTop (mkF m 77 #[.val (.long q1), .second, .val (.long q2), .second, .val (.long q3), .second, .val (.int (2 : Int32)), .val (.int (0 : Int32)), .val (.int ((((q3.toUInt64 >>> ((44 : Int32) &&& 0x3f).toInt64.toUInt64).toInt64) &&& (3 : Int64)).toInt32)), .val (.int (((((q3.toUInt64 >>> ((44 : Int32) &&& 0x3f).toInt64.toUInt64).toInt64) &&& (3 : Int64)).toInt32) % (3 : Int32))), .val (.int w5), .val (.int (0 : Int32))] [(.int (16 : Int32)), (.long q2)]))
      refine Run.go (fun _ k => XS.lushr X6.here hx rfl (hb hby d1_77) rfl k) ?_
      show Run p e below s 0 0 (Q_rm1_2 Z q1 q2 q3 h0 n0) (T6.setTop (mkF m 78 #[.val (.long q1), .second, .val (.long q2), .second, .val (.long q3), .second, .val (.int (2 : Int32)), .val (.int (0 : Int32)), .val (.int ((((q3.toUInt64 >>> ((44 : Int32) &&& 0x3f).toInt64.toUInt64).toInt64) &&& (3 : Int64)).toInt32)), .val (.int (((((q3.toUInt64 >>> ((44 : Int32) &&& 0x3f).toInt64.toUInt64).toInt64) &&& (3 : Int64)).toInt32) % (3 : Int32))), .val (.int w5), .val (.int (0 : Int32))] [(.long ((q2.toUInt64 >>> ((16 : Int32) &&& 0x3f).toInt64.toUInt64).toInt64))]))
      refine Run.go (fun _ k => X6.ldc2Long hx hown (mvT hZ (hw _ (List.mem_of_getElem? (i := 5) rfl))) (g := (mkF m 78 #[.val (.long q1), .second, .val (.long q2), .second, .val (.long q3), .second, .val (.int (2 : Int32)), .val (.int (0 : Int32)), .val (.int ((((q3.toUInt64 >>> ((44 : Int32) &&& 0x3f).toInt64.toUInt64).toInt64) &&& (3 : Int64)).toInt32)), .val (.int (((((q3.toUInt64 >>> ((44 : Int32) &&& 0x3f).toInt64.toUInt64).toInt64) &&& (3 : Int64)).toInt32) % (3 : Int32))), .val (.int w5), .val (.int (0 : Int32))] [(.long ((q2.toUInt64 >>> ((16 : Int32) &&& 0x3f).toInt64.toUInt64).toInt64))])) rfl (hb hby d1_78) _ k) ?_
      show Run p e below s 0 0 (Q_rm1_2 Z q1 q2 q3 h0 n0) (T6.setTop (mkF m 81 #[.val (.long q1), .second, .val (.long q2), .second, .val (.long q3), .second, .val (.int (2 : Int32)), .val (.int (0 : Int32)), .val (.int ((((q3.toUInt64 >>> ((44 : Int32) &&& 0x3f).toInt64.toUInt64).toInt64) &&& (3 : Int64)).toInt32)), .val (.int (((((q3.toUInt64 >>> ((44 : Int32) &&& 0x3f).toInt64.toUInt64).toInt64) &&& (3 : Int64)).toInt32) % (3 : Int32))), .val (.int w5), .val (.int (0 : Int32))] [(.long (255 : Int64)), (.long ((q2.toUInt64 >>> ((16 : Int32) &&& 0x3f).toInt64.toUInt64).toInt64))]))
      refine Run.go (fun _ k => XS.land X6.here hx rfl (hb hby d1_81) rfl k) ?_
      show Run p e below s 0 0 (Q_rm1_2 Z q1 q2 q3 h0 n0) (T6.setTop (mkF m 82 #[.val (.long q1), .second, .val (.long q2), .second, .val (.long q3), .second, .val (.int (2 : Int32)), .val (.int (0 : Int32)), .val (.int ((((q3.toUInt64 >>> ((44 : Int32) &&& 0x3f).toInt64.toUInt64).toInt64) &&& (3 : Int64)).toInt32)), .val (.int (((((q3.toUInt64 >>> ((44 : Int32) &&& 0x3f).toInt64.toUInt64).toInt64) &&& (3 : Int64)).toInt32) % (3 : Int32))), .val (.int w5), .val (.int (0 : Int32))] [(.long (((q2.toUInt64 >>> ((16 : Int32) &&& 0x3f).toInt64.toUInt64).toInt64) &&& (255 : Int64)))]))
      refine Run.go (fun _ k => XS.l2i X6.here hx rfl (hb hby d1_82) rfl k) ?_
      show Run p e below s 0 0 (Q_rm1_2 Z q1 q2 q3 h0 n0) (T6.setTop (mkF m 83 #[.val (.long q1), .second, .val (.long q2), .second, .val (.long q3), .second, .val (.int (2 : Int32)), .val (.int (0 : Int32)), .val (.int ((((q3.toUInt64 >>> ((44 : Int32) &&& 0x3f).toInt64.toUInt64).toInt64) &&& (3 : Int64)).toInt32)), .val (.int (((((q3.toUInt64 >>> ((44 : Int32) &&& 0x3f).toInt64.toUInt64).toInt64) &&& (3 : Int64)).toInt32) % (3 : Int32))), .val (.int w5), .val (.int (0 : Int32))] [(.int ((((q2.toUInt64 >>> ((16 : Int32) &&& 0x3f).toInt64.toUInt64).toInt64) &&& (255 : Int64)).toInt32))]))
      refine Run.go (fun _ k => XS.istore X6.here hx rfl (hb hby d1_83) rfl (l' := #[.val (.long q1), .second, .val (.long q2), .second, .val (.long q3), .second, .val (.int (2 : Int32)), .val (.int (0 : Int32)), .val (.int ((((q3.toUInt64 >>> ((44 : Int32) &&& 0x3f).toInt64.toUInt64).toInt64) &&& (3 : Int64)).toInt32)), .val (.int (((((q3.toUInt64 >>> ((44 : Int32) &&& 0x3f).toInt64.toUInt64).toInt64) &&& (3 : Int64)).toInt32) % (3 : Int32))), .val (.int w5), .val (.int ((((q2.toUInt64 >>> ((16 : Int32) &&& 0x3f).toInt64.toUInt64).toInt64) &&& (255 : Int64)).toInt32))]) rfl k) ?_
      show Run p e below s 0 0 (Q_rm1_2 Z q1 q2 q3 h0 n0) (T6.setTop (mkF m 85 #[.val (.long q1), .second, .val (.long q2), .second, .val (.long q3), .second, .val (.int (2 : Int32)), .val (.int (0 : Int32)), .val (.int ((((q3.toUInt64 >>> ((44 : Int32) &&& 0x3f).toInt64.toUInt64).toInt64) &&& (3 : Int64)).toInt32)), .val (.int (((((q3.toUInt64 >>> ((44 : Int32) &&& 0x3f).toInt64.toUInt64).toInt64) &&& (3 : Int64)).toInt32) % (3 : Int32))), .val (.int w5), .val (.int ((((q2.toUInt64 >>> ((16 : Int32) &&& 0x3f).toInt64.toUInt64).toInt64) &&& (255 : Int64)).toInt32))] []))
      exact J7 _ (by rw [if_neg hc10]) _ _ X6 e6 N6
  by_cases hc11 : ((((((q3.toUInt64 >>> ((44 : Int32) &&& 0x3f).toInt64.toUInt64).toInt64) &&& (3 : Int64)).toInt32) % (3 : Int32)) < (1 : Int32))
  · refine Run.go (fun _ k => XS.icmpYes X0.here hx rfl (pc0 := 48) (pc' := 65) rfl (hb hby d1_48) rfl (tlt hc11).1 (by decide) (by decide) k) ?_
    show Run p e below s 0 0 (Q_rm1_2 Z q1 q2 q3 h0 n0) (s₁.setTop (mkF m 65 #[.val (.long q1), .second, .val (.long q2), .second, .val (.long q3), .second, .val (.int (2 : Int32)), .val (.int (0 : Int32)), .val (.int ((((q3.toUInt64 >>> ((44 : Int32) &&& 0x3f).toInt64.toUInt64).toInt64) &&& (3 : Int64)).toInt32)), .val (.int (((((q3.toUInt64 >>> ((44 : Int32) &&& 0x3f).toInt64.toUInt64).toInt64) &&& (3 : Int64)).toInt32) % (3 : Int32))), .val (.int (0 : Int32)), .val (.int (0 : Int32))] []))
    exact J4 _ (by rw [if_pos hc11]) _ _ X0 e0 N0
  · refine Run.go (fun _ k => XS.icmpNo X0.here hx rfl (hb hby d1_48) rfl (flt hc11).1 k) ?_
    show Run p e below s 0 0 (Q_rm1_2 Z q1 q2 q3 h0 n0) (s₁.setTop (mkF m 51 #[.val (.long q1), .second, .val (.long q2), .second, .val (.long q3), .second, .val (.int (2 : Int32)), .val (.int (0 : Int32)), .val (.int ((((q3.toUInt64 >>> ((44 : Int32) &&& 0x3f).toInt64.toUInt64).toInt64) &&& (3 : Int64)).toInt32)), .val (.int (((((q3.toUInt64 >>> ((44 : Int32) &&& 0x3f).toInt64.toUInt64).toInt64) &&& (3 : Int64)).toInt32) % (3 : Int32))), .val (.int (0 : Int32)), .val (.int (0 : Int32))] []))
    refine Run.go (fun _ k => XS.lloadN X0.here hx rfl (hb hby d1_51) rfl  k) ?_
    show Run p e below s 0 0 (Q_rm1_2 Z q1 q2 q3 h0 n0) (s₁.setTop (mkF m 52 #[.val (.long q1), .second, .val (.long q2), .second, .val (.long q3), .second, .val (.int (2 : Int32)), .val (.int (0 : Int32)), .val (.int ((((q3.toUInt64 >>> ((44 : Int32) &&& 0x3f).toInt64.toUInt64).toInt64) &&& (3 : Int64)).toInt32)), .val (.int (((((q3.toUInt64 >>> ((44 : Int32) &&& 0x3f).toInt64.toUInt64).toInt64) &&& (3 : Int64)).toInt32) % (3 : Int32))), .val (.int (0 : Int32)), .val (.int (0 : Int32))] [(.long q1)]))
    refine Run.go (fun _ k => XS.bipush X0.here hx rfl (hb hby d1_52) k) ?_
    show Run p e below s 0 0 (Q_rm1_2 Z q1 q2 q3 h0 n0) (s₁.setTop (mkF m 54 #[.val (.long q1), .second, .val (.long q2), .second, .val (.long q3), .second, .val (.int (2 : Int32)), .val (.int (0 : Int32)), .val (.int ((((q3.toUInt64 >>> ((44 : Int32) &&& 0x3f).toInt64.toUInt64).toInt64) &&& (3 : Int64)).toInt32)), .val (.int (((((q3.toUInt64 >>> ((44 : Int32) &&& 0x3f).toInt64.toUInt64).toInt64) &&& (3 : Int64)).toInt32) % (3 : Int32))), .val (.int (0 : Int32)), .val (.int (0 : Int32))] [(.int (8 : Int32)), (.long q1)]))
    refine Run.go (fun _ k => XS.iload X0.here hx rfl (hb hby d1_54) rfl  k) ?_
    show Run p e below s 0 0 (Q_rm1_2 Z q1 q2 q3 h0 n0) (s₁.setTop (mkF m 56 #[.val (.long q1), .second, .val (.long q2), .second, .val (.long q3), .second, .val (.int (2 : Int32)), .val (.int (0 : Int32)), .val (.int ((((q3.toUInt64 >>> ((44 : Int32) &&& 0x3f).toInt64.toUInt64).toInt64) &&& (3 : Int64)).toInt32)), .val (.int (((((q3.toUInt64 >>> ((44 : Int32) &&& 0x3f).toInt64.toUInt64).toInt64) &&& (3 : Int64)).toInt32) % (3 : Int32))), .val (.int (0 : Int32)), .val (.int (0 : Int32))] [(.int (2 : Int32)), (.int (8 : Int32)), (.long q1)]))
    refine Run.go (fun _ k => XS.imul X0.here hx rfl (hb hby d1_56) rfl k) ?_
    show Run p e below s 0 0 (Q_rm1_2 Z q1 q2 q3 h0 n0) (s₁.setTop (mkF m 57 #[.val (.long q1), .second, .val (.long q2), .second, .val (.long q3), .second, .val (.int (2 : Int32)), .val (.int (0 : Int32)), .val (.int ((((q3.toUInt64 >>> ((44 : Int32) &&& 0x3f).toInt64.toUInt64).toInt64) &&& (3 : Int64)).toInt32)), .val (.int (((((q3.toUInt64 >>> ((44 : Int32) &&& 0x3f).toInt64.toUInt64).toInt64) &&& (3 : Int64)).toInt32) % (3 : Int32))), .val (.int (0 : Int32)), .val (.int (0 : Int32))] [(.int (16 : Int32)), (.long q1)]))
    refine Run.go (fun _ k => XS.lushr X0.here hx rfl (hb hby d1_57) rfl k) ?_
    show Run p e below s 0 0 (Q_rm1_2 Z q1 q2 q3 h0 n0) (s₁.setTop (mkF m 58 #[.val (.long q1), .second, .val (.long q2), .second, .val (.long q3), .second, .val (.int (2 : Int32)), .val (.int (0 : Int32)), .val (.int ((((q3.toUInt64 >>> ((44 : Int32) &&& 0x3f).toInt64.toUInt64).toInt64) &&& (3 : Int64)).toInt32)), .val (.int (((((q3.toUInt64 >>> ((44 : Int32) &&& 0x3f).toInt64.toUInt64).toInt64) &&& (3 : Int64)).toInt32) % (3 : Int32))), .val (.int (0 : Int32)), .val (.int (0 : Int32))] [(.long ((q1.toUInt64 >>> ((16 : Int32) &&& 0x3f).toInt64.toUInt64).toInt64))]))
    refine Run.go (fun _ k => X0.ldc2Long hx hown (mvT hZ (hw _ (List.mem_of_getElem? (i := 5) rfl))) (g := (mkF m 58 #[.val (.long q1), .second, .val (.long q2), .second, .val (.long q3), .second, .val (.int (2 : Int32)), .val (.int (0 : Int32)), .val (.int ((((q3.toUInt64 >>> ((44 : Int32) &&& 0x3f).toInt64.toUInt64).toInt64) &&& (3 : Int64)).toInt32)), .val (.int (((((q3.toUInt64 >>> ((44 : Int32) &&& 0x3f).toInt64.toUInt64).toInt64) &&& (3 : Int64)).toInt32) % (3 : Int32))), .val (.int (0 : Int32)), .val (.int (0 : Int32))] [(.long ((q1.toUInt64 >>> ((16 : Int32) &&& 0x3f).toInt64.toUInt64).toInt64))])) rfl (hb hby d1_58) _ k) ?_
    show Run p e below s 0 0 (Q_rm1_2 Z q1 q2 q3 h0 n0) (s₁.setTop (mkF m 61 #[.val (.long q1), .second, .val (.long q2), .second, .val (.long q3), .second, .val (.int (2 : Int32)), .val (.int (0 : Int32)), .val (.int ((((q3.toUInt64 >>> ((44 : Int32) &&& 0x3f).toInt64.toUInt64).toInt64) &&& (3 : Int64)).toInt32)), .val (.int (((((q3.toUInt64 >>> ((44 : Int32) &&& 0x3f).toInt64.toUInt64).toInt64) &&& (3 : Int64)).toInt32) % (3 : Int32))), .val (.int (0 : Int32)), .val (.int (0 : Int32))] [(.long (255 : Int64)), (.long ((q1.toUInt64 >>> ((16 : Int32) &&& 0x3f).toInt64.toUInt64).toInt64))]))
    refine Run.go (fun _ k => XS.land X0.here hx rfl (hb hby d1_61) rfl k) ?_
    show Run p e below s 0 0 (Q_rm1_2 Z q1 q2 q3 h0 n0) (s₁.setTop (mkF m 62 #[.val (.long q1), .second, .val (.long q2), .second, .val (.long q3), .second, .val (.int (2 : Int32)), .val (.int (0 : Int32)), .val (.int ((((q3.toUInt64 >>> ((44 : Int32) &&& 0x3f).toInt64.toUInt64).toInt64) &&& (3 : Int64)).toInt32)), .val (.int (((((q3.toUInt64 >>> ((44 : Int32) &&& 0x3f).toInt64.toUInt64).toInt64) &&& (3 : Int64)).toInt32) % (3 : Int32))), .val (.int (0 : Int32)), .val (.int (0 : Int32))] [(.long (((q1.toUInt64 >>> ((16 : Int32) &&& 0x3f).toInt64.toUInt64).toInt64) &&& (255 : Int64)))]))
    refine Run.go (fun _ k => XS.l2i X0.here hx rfl (hb hby d1_62) rfl k) ?_
    show Run p e below s 0 0 (Q_rm1_2 Z q1 q2 q3 h0 n0) (s₁.setTop (mkF m 63 #[.val (.long q1), .second, .val (.long q2), .second, .val (.long q3), .second, .val (.int (2 : Int32)), .val (.int (0 : Int32)), .val (.int ((((q3.toUInt64 >>> ((44 : Int32) &&& 0x3f).toInt64.toUInt64).toInt64) &&& (3 : Int64)).toInt32)), .val (.int (((((q3.toUInt64 >>> ((44 : Int32) &&& 0x3f).toInt64.toUInt64).toInt64) &&& (3 : Int64)).toInt32) % (3 : Int32))), .val (.int (0 : Int32)), .val (.int (0 : Int32))] [(.int ((((q1.toUInt64 >>> ((16 : Int32) &&& 0x3f).toInt64.toUInt64).toInt64) &&& (255 : Int64)).toInt32))]))
    refine Run.go (fun _ k => XS.istore X0.here hx rfl (hb hby d1_63) rfl (l' := #[.val (.long q1), .second, .val (.long q2), .second, .val (.long q3), .second, .val (.int (2 : Int32)), .val (.int (0 : Int32)), .val (.int ((((q3.toUInt64 >>> ((44 : Int32) &&& 0x3f).toInt64.toUInt64).toInt64) &&& (3 : Int64)).toInt32)), .val (.int (((((q3.toUInt64 >>> ((44 : Int32) &&& 0x3f).toInt64.toUInt64).toInt64) &&& (3 : Int64)).toInt32) % (3 : Int32))), .val (.int ((((q1.toUInt64 >>> ((16 : Int32) &&& 0x3f).toInt64.toUInt64).toInt64) &&& (255 : Int64)).toInt32)), .val (.int (0 : Int32))]) rfl k) ?_
    show Run p e below s 0 0 (Q_rm1_2 Z q1 q2 q3 h0 n0) (s₁.setTop (mkF m 65 #[.val (.long q1), .second, .val (.long q2), .second, .val (.long q3), .second, .val (.int (2 : Int32)), .val (.int (0 : Int32)), .val (.int ((((q3.toUInt64 >>> ((44 : Int32) &&& 0x3f).toInt64.toUInt64).toInt64) &&& (3 : Int64)).toInt32)), .val (.int (((((q3.toUInt64 >>> ((44 : Int32) &&& 0x3f).toInt64.toUInt64).toInt64) &&& (3 : Int64)).toInt32) % (3 : Int32))), .val (.int ((((q1.toUInt64 >>> ((16 : Int32) &&& 0x3f).toInt64.toUInt64).toInt64) &&& (255 : Int64)).toInt32)), .val (.int (0 : Int32))] []))
    exact J4 _ (by rw [if_neg hc11]) _ _ X0 e0 N0
def F_rm1_3 (q1 : Int64) (q2 : Int64) (q3 : Int64) : Int32 := let w5 : Int32 := (if ((((((q3.toUInt64 >>> ((46 : Int32) &&& 0x3f).toInt64.toUInt64).toInt64) &&& (3 : Int64)).toInt32) % (3 : Int32)) < (1 : Int32)) then (0 : Int32) else ((((q1.toUInt64 >>> ((24 : Int32) &&& 0x3f).toInt64.toUInt64).toInt64) &&& (255 : Int64)).toInt32)); let w8 : Int32 := (if ((((((q3.toUInt64 >>> ((46 : Int32) &&& 0x3f).toInt64.toUInt64).toInt64) &&& (3 : Int64)).toInt32) % (3 : Int32)) < (2 : Int32)) then (0 : Int32) else ((((q2.toUInt64 >>> ((24 : Int32) &&& 0x3f).toInt64.toUInt64).toInt64) &&& (255 : Int64)).toInt32)); ((((((((q3.toUInt64 >>> ((46 : Int32) &&& 0x3f).toInt64.toUInt64).toInt64) &&& (3 : Int64)).toInt32) % (3 : Int32)) <<< ((16 : Int32) &&& 31)) ||| (w5 <<< ((8 : Int32) &&& 31))) ||| w8)
def Q_rm1_3 (Z : State) (q1 : Int64) (q2 : Int64) (q3 : Int64) (h0 : Heap) (n0 : Nat) (v : Option Value) (h : Heap) (L : List Loc) : Prop := v = some (.int (F_rm1_3 q1 q2 q3)) ∧ Fr n0 L ∧ h = h0
theorem ef_rm1_3 (m : MethodId) (x0 : Int64) (x1 : Int64) (x2 : Int64) : entryFrame m #[(.long x0), (.long x1), (.long x2), (.int (3 : Int32)), (.int (0 : Int32))] 12 = mkF m 0 #[.val (.long x0), .second, .val (.long x1), .second, .val (.long x2), .second, .val (.int (3 : Int32)), .val (.int (0 : Int32)), .unset, .unset, .unset, .unset] [] := by first | (simp [entryFrame, mkF, argsToLocals, Value.category]; done) | rfl
set_option maxRecDepth 65536 in
set_option maxHeartbeats 40000000 in
theorem rm1_3 (l : Launch) (Z : State) (a0 : Array Value) (hw : ∀ d ∈ tables_1, d.before a0 Z = true) (ws : List Jvm.Cond) (q1 : Int64) (q2 : Int64) (q3 : Int64) (h0 : Heap) (n0 : Nat) (Z0 : n0 ≤ h0.size)  :
    MetFree l (⟨"com/example/subjectory/subjectory/heading/ClassLinkEqualsPinLaw", "spec", "(JJJIZ)I"⟩ : MethodName) (head1 (Jvm.Cond.code (⟨"com/example/subjectory/subjectory/heading/ClassLinkEqualsPinLaw", "spec", "(JJJIZ)I"⟩ : MethodName) method_2_code 12 (some .int) :: ws) ({ frames := 0, cells := 0, slots := 0, locals := 0 } : Room)) (fun a U => a = #[(.long q1), (.long q2), (.long q3), (.int (3 : Int32)), (.int (0 : Int32))] ∧ Z.Warmed39 U.vm ∧ U.heap = h0) (fun _ _ _ _ _ => True) (fun _ U o U' => ∃ v L, o = .returned v ∧ Q_rm1_3 Z q1 q2 q3 h0 n0 v U'.heap L ∧ FrameEnd U o U' L ({ frames := 0, cells := 0, slots := 0, locals := 0 } : Room).cells ({ frames := 0, cells := 0, slots := 0, locals := 0 } : Room).slots) := by
  refine MetFree.of_bodySF (plainFor_of_name pn_2) hisR ?_
  intro p e s m args below meth c s₁ Bd hml0 hP hK
  obtain ⟨rfl, hZ, hh⟩ := hP
  have hx := Bd.exec
  have hby := Bd.bytes
  have hml : c.maxLocals = 12 := hml0
  have hown : s.vm.findClass "com/example/subjectory/subjectory/heading/ClassLinkEqualsPinLaw" = some m.cls := findClass_of_methodNamed Bd.named
  have hnm := (name_of_methodNamed Bd.named Bd.method).1
  have X0 : Stand p l e ({ frames := 0, cells := 0, slots := 0, locals := 0 } : Room) s m #[(.long q1), (.long q2), (.long q3), (.int (3 : Int32)), (.int (0 : Int32))] below meth c s₁ [] 0 0 := Stand.of_body Bd
  have e0 : s₁.heap = h0 := by rw [← hh, Bd.state]; rfl
  have N0 := Fr.nil n0
  show Run p e below s 0 0 (Q_rm1_3 Z q1 q2 q3 h0 n0) (s₁.setTop (entryFrame m #[(.long q1), (.long q2), (.long q3), (.int (3 : Int32)), (.int (0 : Int32))] 12))
  refine Run.go (fun _ k => castTop (ef_rm1_3 m q1 q2 q3) k) ?_
  show Run p e below s 0 0 (Q_rm1_3 Z q1 q2 q3 h0 n0) (s₁.setTop (mkF m 0 #[.val (.long q1), .second, .val (.long q2), .second, .val (.long q3), .second, .val (.int (3 : Int32)), .val (.int (0 : Int32)), .unset, .unset, .unset, .unset] []))
  refine Run.go (fun _ k => XS.lload X0.here hx rfl (hb hby d1_0) rfl  k) ?_
  show Run p e below s 0 0 (Q_rm1_3 Z q1 q2 q3 h0 n0) (s₁.setTop (mkF m 2 #[.val (.long q1), .second, .val (.long q2), .second, .val (.long q3), .second, .val (.int (3 : Int32)), .val (.int (0 : Int32)), .unset, .unset, .unset, .unset] [(.long q3)]))
  refine Run.go (fun _ k => XS.bipush X0.here hx rfl (hb hby d1_2) k) ?_
  show Run p e below s 0 0 (Q_rm1_3 Z q1 q2 q3 h0 n0) (s₁.setTop (mkF m 4 #[.val (.long q1), .second, .val (.long q2), .second, .val (.long q3), .second, .val (.int (3 : Int32)), .val (.int (0 : Int32)), .unset, .unset, .unset, .unset] [(.int (40 : Int32)), (.long q3)]))
  refine Run.go (fun _ k => XS.iconst X0.here hx rfl (hb hby d1_4) k) ?_
  show Run p e below s 0 0 (Q_rm1_3 Z q1 q2 q3 h0 n0) (s₁.setTop (mkF m 5 #[.val (.long q1), .second, .val (.long q2), .second, .val (.long q3), .second, .val (.int (3 : Int32)), .val (.int (0 : Int32)), .unset, .unset, .unset, .unset] [(.int (2 : Int32)), (.int (40 : Int32)), (.long q3)]))
  refine Run.go (fun _ k => XS.iload X0.here hx rfl (hb hby d1_5) rfl  k) ?_
  show Run p e below s 0 0 (Q_rm1_3 Z q1 q2 q3 h0 n0) (s₁.setTop (mkF m 7 #[.val (.long q1), .second, .val (.long q2), .second, .val (.long q3), .second, .val (.int (3 : Int32)), .val (.int (0 : Int32)), .unset, .unset, .unset, .unset] [(.int (3 : Int32)), (.int (2 : Int32)), (.int (40 : Int32)), (.long q3)]))
  refine Run.go (fun _ k => XS.imul X0.here hx rfl (hb hby d1_7) rfl k) ?_
  show Run p e below s 0 0 (Q_rm1_3 Z q1 q2 q3 h0 n0) (s₁.setTop (mkF m 8 #[.val (.long q1), .second, .val (.long q2), .second, .val (.long q3), .second, .val (.int (3 : Int32)), .val (.int (0 : Int32)), .unset, .unset, .unset, .unset] [(.int (6 : Int32)), (.int (40 : Int32)), (.long q3)]))
  refine Run.go (fun _ k => XS.iadd X0.here hx rfl (hb hby d1_8) rfl k) ?_
  show Run p e below s 0 0 (Q_rm1_3 Z q1 q2 q3 h0 n0) (s₁.setTop (mkF m 9 #[.val (.long q1), .second, .val (.long q2), .second, .val (.long q3), .second, .val (.int (3 : Int32)), .val (.int (0 : Int32)), .unset, .unset, .unset, .unset] [(.int (46 : Int32)), (.long q3)]))
  refine Run.go (fun _ k => XS.lushr X0.here hx rfl (hb hby d1_9) rfl k) ?_
  show Run p e below s 0 0 (Q_rm1_3 Z q1 q2 q3 h0 n0) (s₁.setTop (mkF m 10 #[.val (.long q1), .second, .val (.long q2), .second, .val (.long q3), .second, .val (.int (3 : Int32)), .val (.int (0 : Int32)), .unset, .unset, .unset, .unset] [(.long ((q3.toUInt64 >>> ((46 : Int32) &&& 0x3f).toInt64.toUInt64).toInt64))]))
  refine Run.go (fun _ k => X0.ldc2Long hx hown (mvT hZ (hw _ (List.mem_of_getElem? (i := 4) rfl))) (g := (mkF m 10 #[.val (.long q1), .second, .val (.long q2), .second, .val (.long q3), .second, .val (.int (3 : Int32)), .val (.int (0 : Int32)), .unset, .unset, .unset, .unset] [(.long ((q3.toUInt64 >>> ((46 : Int32) &&& 0x3f).toInt64.toUInt64).toInt64))])) rfl (hb hby d1_10) _ k) ?_
  show Run p e below s 0 0 (Q_rm1_3 Z q1 q2 q3 h0 n0) (s₁.setTop (mkF m 13 #[.val (.long q1), .second, .val (.long q2), .second, .val (.long q3), .second, .val (.int (3 : Int32)), .val (.int (0 : Int32)), .unset, .unset, .unset, .unset] [(.long (3 : Int64)), (.long ((q3.toUInt64 >>> ((46 : Int32) &&& 0x3f).toInt64.toUInt64).toInt64))]))
  refine Run.go (fun _ k => XS.land X0.here hx rfl (hb hby d1_13) rfl k) ?_
  show Run p e below s 0 0 (Q_rm1_3 Z q1 q2 q3 h0 n0) (s₁.setTop (mkF m 14 #[.val (.long q1), .second, .val (.long q2), .second, .val (.long q3), .second, .val (.int (3 : Int32)), .val (.int (0 : Int32)), .unset, .unset, .unset, .unset] [(.long (((q3.toUInt64 >>> ((46 : Int32) &&& 0x3f).toInt64.toUInt64).toInt64) &&& (3 : Int64)))]))
  refine Run.go (fun _ k => XS.l2i X0.here hx rfl (hb hby d1_14) rfl k) ?_
  show Run p e below s 0 0 (Q_rm1_3 Z q1 q2 q3 h0 n0) (s₁.setTop (mkF m 15 #[.val (.long q1), .second, .val (.long q2), .second, .val (.long q3), .second, .val (.int (3 : Int32)), .val (.int (0 : Int32)), .unset, .unset, .unset, .unset] [(.int ((((q3.toUInt64 >>> ((46 : Int32) &&& 0x3f).toInt64.toUInt64).toInt64) &&& (3 : Int64)).toInt32))]))
  refine Run.go (fun _ k => XS.istore X0.here hx rfl (hb hby d1_15) rfl (l' := #[.val (.long q1), .second, .val (.long q2), .second, .val (.long q3), .second, .val (.int (3 : Int32)), .val (.int (0 : Int32)), .val (.int ((((q3.toUInt64 >>> ((46 : Int32) &&& 0x3f).toInt64.toUInt64).toInt64) &&& (3 : Int64)).toInt32)), .unset, .unset, .unset]) rfl k) ?_
  show Run p e below s 0 0 (Q_rm1_3 Z q1 q2 q3 h0 n0) (s₁.setTop (mkF m 17 #[.val (.long q1), .second, .val (.long q2), .second, .val (.long q3), .second, .val (.int (3 : Int32)), .val (.int (0 : Int32)), .val (.int ((((q3.toUInt64 >>> ((46 : Int32) &&& 0x3f).toInt64.toUInt64).toInt64) &&& (3 : Int64)).toInt32)), .unset, .unset, .unset] []))
  refine Run.go (fun _ k => XS.iload X0.here hx rfl (hb hby d1_17) rfl  k) ?_
  show Run p e below s 0 0 (Q_rm1_3 Z q1 q2 q3 h0 n0) (s₁.setTop (mkF m 19 #[.val (.long q1), .second, .val (.long q2), .second, .val (.long q3), .second, .val (.int (3 : Int32)), .val (.int (0 : Int32)), .val (.int ((((q3.toUInt64 >>> ((46 : Int32) &&& 0x3f).toInt64.toUInt64).toInt64) &&& (3 : Int64)).toInt32)), .unset, .unset, .unset] [(.int (0 : Int32))]))
  refine Run.go (fun _ k => XS.ifYes X0.here hx rfl (pc0 := 19) (pc' := 33) rfl (hb hby d1_19) rfl ((if0 _ _).trans (teq (rfl : (0 : Int32) = (0 : Int32))).1) (by decide) (by decide) k) ?_
  show Run p e below s 0 0 (Q_rm1_3 Z q1 q2 q3 h0 n0) (s₁.setTop (mkF m 33 #[.val (.long q1), .second, .val (.long q2), .second, .val (.long q3), .second, .val (.int (3 : Int32)), .val (.int (0 : Int32)), .val (.int ((((q3.toUInt64 >>> ((46 : Int32) &&& 0x3f).toInt64.toUInt64).toInt64) &&& (3 : Int64)).toInt32)), .unset, .unset, .unset] []))
  refine Run.go (fun _ k => XS.iload X0.here hx rfl (hb hby d1_33) rfl  k) ?_
  show Run p e below s 0 0 (Q_rm1_3 Z q1 q2 q3 h0 n0) (s₁.setTop (mkF m 35 #[.val (.long q1), .second, .val (.long q2), .second, .val (.long q3), .second, .val (.int (3 : Int32)), .val (.int (0 : Int32)), .val (.int ((((q3.toUInt64 >>> ((46 : Int32) &&& 0x3f).toInt64.toUInt64).toInt64) &&& (3 : Int64)).toInt32)), .unset, .unset, .unset] [(.int ((((q3.toUInt64 >>> ((46 : Int32) &&& 0x3f).toInt64.toUInt64).toInt64) &&& (3 : Int64)).toInt32))]))
  refine Run.go (fun _ k => XS.iconst X0.here hx rfl (hb hby d1_35) k) ?_
  show Run p e below s 0 0 (Q_rm1_3 Z q1 q2 q3 h0 n0) (s₁.setTop (mkF m 36 #[.val (.long q1), .second, .val (.long q2), .second, .val (.long q3), .second, .val (.int (3 : Int32)), .val (.int (0 : Int32)), .val (.int ((((q3.toUInt64 >>> ((46 : Int32) &&& 0x3f).toInt64.toUInt64).toInt64) &&& (3 : Int64)).toInt32)), .unset, .unset, .unset] [(.int (3 : Int32)), (.int ((((q3.toUInt64 >>> ((46 : Int32) &&& 0x3f).toInt64.toUInt64).toInt64) &&& (3 : Int64)).toInt32))]))
  refine Run.go (fun _ k => iremM X0 hx rfl (hb hby d1_36) rfl (by decide) k) ?_
  show Run p e below s 0 0 (Q_rm1_3 Z q1 q2 q3 h0 n0) (s₁.setTop (mkF m 37 #[.val (.long q1), .second, .val (.long q2), .second, .val (.long q3), .second, .val (.int (3 : Int32)), .val (.int (0 : Int32)), .val (.int ((((q3.toUInt64 >>> ((46 : Int32) &&& 0x3f).toInt64.toUInt64).toInt64) &&& (3 : Int64)).toInt32)), .unset, .unset, .unset] [(.int (((((q3.toUInt64 >>> ((46 : Int32) &&& 0x3f).toInt64.toUInt64).toInt64) &&& (3 : Int64)).toInt32) % (3 : Int32)))]))
  refine Run.go (fun _ k => XS.istore X0.here hx rfl (hb hby d1_37) rfl (l' := #[.val (.long q1), .second, .val (.long q2), .second, .val (.long q3), .second, .val (.int (3 : Int32)), .val (.int (0 : Int32)), .val (.int ((((q3.toUInt64 >>> ((46 : Int32) &&& 0x3f).toInt64.toUInt64).toInt64) &&& (3 : Int64)).toInt32)), .val (.int (((((q3.toUInt64 >>> ((46 : Int32) &&& 0x3f).toInt64.toUInt64).toInt64) &&& (3 : Int64)).toInt32) % (3 : Int32))), .unset, .unset]) rfl k) ?_
  show Run p e below s 0 0 (Q_rm1_3 Z q1 q2 q3 h0 n0) (s₁.setTop (mkF m 39 #[.val (.long q1), .second, .val (.long q2), .second, .val (.long q3), .second, .val (.int (3 : Int32)), .val (.int (0 : Int32)), .val (.int ((((q3.toUInt64 >>> ((46 : Int32) &&& 0x3f).toInt64.toUInt64).toInt64) &&& (3 : Int64)).toInt32)), .val (.int (((((q3.toUInt64 >>> ((46 : Int32) &&& 0x3f).toInt64.toUInt64).toInt64) &&& (3 : Int64)).toInt32) % (3 : Int32))), .unset, .unset] []))
  refine Run.go (fun _ k => XS.iconst X0.here hx rfl (hb hby d1_39) k) ?_
  show Run p e below s 0 0 (Q_rm1_3 Z q1 q2 q3 h0 n0) (s₁.setTop (mkF m 40 #[.val (.long q1), .second, .val (.long q2), .second, .val (.long q3), .second, .val (.int (3 : Int32)), .val (.int (0 : Int32)), .val (.int ((((q3.toUInt64 >>> ((46 : Int32) &&& 0x3f).toInt64.toUInt64).toInt64) &&& (3 : Int64)).toInt32)), .val (.int (((((q3.toUInt64 >>> ((46 : Int32) &&& 0x3f).toInt64.toUInt64).toInt64) &&& (3 : Int64)).toInt32) % (3 : Int32))), .unset, .unset] [(.int (0 : Int32))]))
  refine Run.go (fun _ k => XS.istore X0.here hx rfl (hb hby d1_40) rfl (l' := #[.val (.long q1), .second, .val (.long q2), .second, .val (.long q3), .second, .val (.int (3 : Int32)), .val (.int (0 : Int32)), .val (.int ((((q3.toUInt64 >>> ((46 : Int32) &&& 0x3f).toInt64.toUInt64).toInt64) &&& (3 : Int64)).toInt32)), .val (.int (((((q3.toUInt64 >>> ((46 : Int32) &&& 0x3f).toInt64.toUInt64).toInt64) &&& (3 : Int64)).toInt32) % (3 : Int32))), .val (.int (0 : Int32)), .unset]) rfl k) ?_
  show Run p e below s 0 0 (Q_rm1_3 Z q1 q2 q3 h0 n0) (s₁.setTop (mkF m 42 #[.val (.long q1), .second, .val (.long q2), .second, .val (.long q3), .second, .val (.int (3 : Int32)), .val (.int (0 : Int32)), .val (.int ((((q3.toUInt64 >>> ((46 : Int32) &&& 0x3f).toInt64.toUInt64).toInt64) &&& (3 : Int64)).toInt32)), .val (.int (((((q3.toUInt64 >>> ((46 : Int32) &&& 0x3f).toInt64.toUInt64).toInt64) &&& (3 : Int64)).toInt32) % (3 : Int32))), .val (.int (0 : Int32)), .unset] []))
  refine Run.go (fun _ k => XS.iconst X0.here hx rfl (hb hby d1_42) k) ?_
  show Run p e below s 0 0 (Q_rm1_3 Z q1 q2 q3 h0 n0) (s₁.setTop (mkF m 43 #[.val (.long q1), .second, .val (.long q2), .second, .val (.long q3), .second, .val (.int (3 : Int32)), .val (.int (0 : Int32)), .val (.int ((((q3.toUInt64 >>> ((46 : Int32) &&& 0x3f).toInt64.toUInt64).toInt64) &&& (3 : Int64)).toInt32)), .val (.int (((((q3.toUInt64 >>> ((46 : Int32) &&& 0x3f).toInt64.toUInt64).toInt64) &&& (3 : Int64)).toInt32) % (3 : Int32))), .val (.int (0 : Int32)), .unset] [(.int (0 : Int32))]))
  refine Run.go (fun _ k => XS.istore X0.here hx rfl (hb hby d1_43) rfl (l' := #[.val (.long q1), .second, .val (.long q2), .second, .val (.long q3), .second, .val (.int (3 : Int32)), .val (.int (0 : Int32)), .val (.int ((((q3.toUInt64 >>> ((46 : Int32) &&& 0x3f).toInt64.toUInt64).toInt64) &&& (3 : Int64)).toInt32)), .val (.int (((((q3.toUInt64 >>> ((46 : Int32) &&& 0x3f).toInt64.toUInt64).toInt64) &&& (3 : Int64)).toInt32) % (3 : Int32))), .val (.int (0 : Int32)), .val (.int (0 : Int32))]) rfl k) ?_
  show Run p e below s 0 0 (Q_rm1_3 Z q1 q2 q3 h0 n0) (s₁.setTop (mkF m 45 #[.val (.long q1), .second, .val (.long q2), .second, .val (.long q3), .second, .val (.int (3 : Int32)), .val (.int (0 : Int32)), .val (.int ((((q3.toUInt64 >>> ((46 : Int32) &&& 0x3f).toInt64.toUInt64).toInt64) &&& (3 : Int64)).toInt32)), .val (.int (((((q3.toUInt64 >>> ((46 : Int32) &&& 0x3f).toInt64.toUInt64).toInt64) &&& (3 : Int64)).toInt32) % (3 : Int32))), .val (.int (0 : Int32)), .val (.int (0 : Int32))] []))
  refine Run.go (fun _ k => XS.iload X0.here hx rfl (hb hby d1_45) rfl  k) ?_
  show Run p e below s 0 0 (Q_rm1_3 Z q1 q2 q3 h0 n0) (s₁.setTop (mkF m 47 #[.val (.long q1), .second, .val (.long q2), .second, .val (.long q3), .second, .val (.int (3 : Int32)), .val (.int (0 : Int32)), .val (.int ((((q3.toUInt64 >>> ((46 : Int32) &&& 0x3f).toInt64.toUInt64).toInt64) &&& (3 : Int64)).toInt32)), .val (.int (((((q3.toUInt64 >>> ((46 : Int32) &&& 0x3f).toInt64.toUInt64).toInt64) &&& (3 : Int64)).toInt32) % (3 : Int32))), .val (.int (0 : Int32)), .val (.int (0 : Int32))] [(.int (((((q3.toUInt64 >>> ((46 : Int32) &&& 0x3f).toInt64.toUInt64).toInt64) &&& (3 : Int64)).toInt32) % (3 : Int32)))]))
  refine Run.go (fun _ k => XS.iconst X0.here hx rfl (hb hby d1_47) k) ?_
  show Run p e below s 0 0 (Q_rm1_3 Z q1 q2 q3 h0 n0) (s₁.setTop (mkF m 48 #[.val (.long q1), .second, .val (.long q2), .second, .val (.long q3), .second, .val (.int (3 : Int32)), .val (.int (0 : Int32)), .val (.int ((((q3.toUInt64 >>> ((46 : Int32) &&& 0x3f).toInt64.toUInt64).toInt64) &&& (3 : Int64)).toInt32)), .val (.int (((((q3.toUInt64 >>> ((46 : Int32) &&& 0x3f).toInt64.toUInt64).toInt64) &&& (3 : Int64)).toInt32) % (3 : Int32))), .val (.int (0 : Int32)), .val (.int (0 : Int32))] [(.int (1 : Int32)), (.int (((((q3.toUInt64 >>> ((46 : Int32) &&& 0x3f).toInt64.toUInt64).toInt64) &&& (3 : Int64)).toInt32) % (3 : Int32)))]))
  have J4 : ∀ (w5 : Int32) (hw5 : w5 = (if ((((((q3.toUInt64 >>> ((46 : Int32) &&& 0x3f).toInt64.toUInt64).toInt64) &&& (3 : Int64)).toInt32) % (3 : Int32)) < (1 : Int32)) then (0 : Int32) else ((((q1.toUInt64 >>> ((24 : Int32) &&& 0x3f).toInt64.toUInt64).toInt64) &&& (255 : Int64)).toInt32))) (T6 : State) (L6 : List Loc) (X6 : Stand p l e ({ frames := 0, cells := 0, slots := 0, locals := 0 } : Room) s m #[(.long q1), (.long q2), (.long q3), (.int (3 : Int32)), (.int (0 : Int32))] below meth c T6 L6 0 0) (e6 : T6.heap = h0) (N6 : Fr n0 L6), Run p e below s 0 0 (Q_rm1_3 Z q1 q2 q3 h0 n0) (T6.setTop (mkF m 65 #[.val (.long q1), .second, .val (.long q2), .second, .val (.long q3), .second, .val (.int (3 : Int32)), .val (.int (0 : Int32)), .val (.int ((((q3.toUInt64 >>> ((46 : Int32) &&& 0x3f).toInt64.toUInt64).toInt64) &&& (3 : Int64)).toInt32)), .val (.int (((((q3.toUInt64 >>> ((46 : Int32) &&& 0x3f).toInt64.toUInt64).toInt64) &&& (3 : Int64)).toInt32) % (3 : Int32))), .val (.int w5), .val (.int (0 : Int32))] [])) := by
    intro w5 hw5 T6 L6 X6 e6 N6
    show Run p e below s 0 0 (Q_rm1_3 Z q1 q2 q3 h0 n0) (T6.setTop (mkF m 65 #[.val (.long q1), .second, .val (.long q2), .second, .val (.long q3), .second, .val (.int (3 : Int32)), .val (.int (0 : Int32)), .val (.int ((((q3.toUInt64 >>> ((46 : Int32) &&& 0x3f).toInt64.toUInt64).toInt64) &&& (3 : Int64)).toInt32)), .val (.int (((((q3.toUInt64 >>> ((46 : Int32) &&& 0x3f).toInt64.toUInt64).toInt64) &&& (3 : Int64)).toInt32) % (3 : Int32))), .val (.int w5), .val (.int (0 : Int32))] []))
    refine Run.go (fun _ k => XS.iload X6.here hx rfl (hb hby d1_65) rfl  k) ?_
    show Run p e below s 0 0 (Q_rm1_3 Z q1 q2 q3 h0 n0) (T6.setTop (mkF m 67 #[.val (.long q1), .second, .val (.long q2), .second, .val (.long q3), .second, .val (.int (3 : Int32)), .val (.int (0 : Int32)), .val (.int ((((q3.toUInt64 >>> ((46 : Int32) &&& 0x3f).toInt64.toUInt64).toInt64) &&& (3 : Int64)).toInt32)), .val (.int (((((q3.toUInt64 >>> ((46 : Int32) &&& 0x3f).toInt64.toUInt64).toInt64) &&& (3 : Int64)).toInt32) % (3 : Int32))), .val (.int w5), .val (.int (0 : Int32))] [(.int (((((q3.toUInt64 >>> ((46 : Int32) &&& 0x3f).toInt64.toUInt64).toInt64) &&& (3 : Int64)).toInt32) % (3 : Int32)))]))
    refine Run.go (fun _ k => XS.iconst X6.here hx rfl (hb hby d1_67) k) ?_
    show Run p e below s 0 0 (Q_rm1_3 Z q1 q2 q3 h0 n0) (T6.setTop (mkF m 68 #[.val (.long q1), .second, .val (.long q2), .second, .val (.long q3), .second, .val (.int (3 : Int32)), .val (.int (0 : Int32)), .val (.int ((((q3.toUInt64 >>> ((46 : Int32) &&& 0x3f).toInt64.toUInt64).toInt64) &&& (3 : Int64)).toInt32)), .val (.int (((((q3.toUInt64 >>> ((46 : Int32) &&& 0x3f).toInt64.toUInt64).toInt64) &&& (3 : Int64)).toInt32) % (3 : Int32))), .val (.int w5), .val (.int (0 : Int32))] [(.int (2 : Int32)), (.int (((((q3.toUInt64 >>> ((46 : Int32) &&& 0x3f).toInt64.toUInt64).toInt64) &&& (3 : Int64)).toInt32) % (3 : Int32)))]))
    have J7 : ∀ (w8 : Int32) (hw8 : w8 = (if ((((((q3.toUInt64 >>> ((46 : Int32) &&& 0x3f).toInt64.toUInt64).toInt64) &&& (3 : Int64)).toInt32) % (3 : Int32)) < (2 : Int32)) then (0 : Int32) else ((((q2.toUInt64 >>> ((24 : Int32) &&& 0x3f).toInt64.toUInt64).toInt64) &&& (255 : Int64)).toInt32))) (T9 : State) (L9 : List Loc) (X9 : Stand p l e ({ frames := 0, cells := 0, slots := 0, locals := 0 } : Room) s m #[(.long q1), (.long q2), (.long q3), (.int (3 : Int32)), (.int (0 : Int32))] below meth c T9 L9 0 0) (e9 : T9.heap = h0) (N9 : Fr n0 L9), Run p e below s 0 0 (Q_rm1_3 Z q1 q2 q3 h0 n0) (T9.setTop (mkF m 85 #[.val (.long q1), .second, .val (.long q2), .second, .val (.long q3), .second, .val (.int (3 : Int32)), .val (.int (0 : Int32)), .val (.int ((((q3.toUInt64 >>> ((46 : Int32) &&& 0x3f).toInt64.toUInt64).toInt64) &&& (3 : Int64)).toInt32)), .val (.int (((((q3.toUInt64 >>> ((46 : Int32) &&& 0x3f).toInt64.toUInt64).toInt64) &&& (3 : Int64)).toInt32) % (3 : Int32))), .val (.int w5), .val (.int w8)] [])) := by
      intro w8 hw8 T9 L9 X9 e9 N9
      show Run p e below s 0 0 (Q_rm1_3 Z q1 q2 q3 h0 n0) (T9.setTop (mkF m 85 #[.val (.long q1), .second, .val (.long q2), .second, .val (.long q3), .second, .val (.int (3 : Int32)), .val (.int (0 : Int32)), .val (.int ((((q3.toUInt64 >>> ((46 : Int32) &&& 0x3f).toInt64.toUInt64).toInt64) &&& (3 : Int64)).toInt32)), .val (.int (((((q3.toUInt64 >>> ((46 : Int32) &&& 0x3f).toInt64.toUInt64).toInt64) &&& (3 : Int64)).toInt32) % (3 : Int32))), .val (.int w5), .val (.int w8)] []))
      refine Run.go (fun _ k => XS.iload X9.here hx rfl (hb hby d1_85) rfl  k) ?_
      show Run p e below s 0 0 (Q_rm1_3 Z q1 q2 q3 h0 n0) (T9.setTop (mkF m 87 #[.val (.long q1), .second, .val (.long q2), .second, .val (.long q3), .second, .val (.int (3 : Int32)), .val (.int (0 : Int32)), .val (.int ((((q3.toUInt64 >>> ((46 : Int32) &&& 0x3f).toInt64.toUInt64).toInt64) &&& (3 : Int64)).toInt32)), .val (.int (((((q3.toUInt64 >>> ((46 : Int32) &&& 0x3f).toInt64.toUInt64).toInt64) &&& (3 : Int64)).toInt32) % (3 : Int32))), .val (.int w5), .val (.int w8)] [(.int (((((q3.toUInt64 >>> ((46 : Int32) &&& 0x3f).toInt64.toUInt64).toInt64) &&& (3 : Int64)).toInt32) % (3 : Int32)))]))
      refine Run.go (fun _ k => XS.bipush X9.here hx rfl (hb hby d1_87) k) ?_
      show Run p e below s 0 0 (Q_rm1_3 Z q1 q2 q3 h0 n0) (T9.setTop (mkF m 89 #[.val (.long q1), .second, .val (.long q2), .second, .val (.long q3), .second, .val (.int (3 : Int32)), .val (.int (0 : Int32)), .val (.int ((((q3.toUInt64 >>> ((46 : Int32) &&& 0x3f).toInt64.toUInt64).toInt64) &&& (3 : Int64)).toInt32)), .val (.int (((((q3.toUInt64 >>> ((46 : Int32) &&& 0x3f).toInt64.toUInt64).toInt64) &&& (3 : Int64)).toInt32) % (3 : Int32))), .val (.int w5), .val (.int w8)] [(.int (16 : Int32)), (.int (((((q3.toUInt64 >>> ((46 : Int32) &&& 0x3f).toInt64.toUInt64).toInt64) &&& (3 : Int64)).toInt32) % (3 : Int32)))]))
      refine Run.go (fun _ k => XS.ishl X9.here hx rfl (hb hby d1_89) rfl k) ?_
      show Run p e below s 0 0 (Q_rm1_3 Z q1 q2 q3 h0 n0) (T9.setTop (mkF m 90 #[.val (.long q1), .second, .val (.long q2), .second, .val (.long q3), .second, .val (.int (3 : Int32)), .val (.int (0 : Int32)), .val (.int ((((q3.toUInt64 >>> ((46 : Int32) &&& 0x3f).toInt64.toUInt64).toInt64) &&& (3 : Int64)).toInt32)), .val (.int (((((q3.toUInt64 >>> ((46 : Int32) &&& 0x3f).toInt64.toUInt64).toInt64) &&& (3 : Int64)).toInt32) % (3 : Int32))), .val (.int w5), .val (.int w8)] [(.int ((((((q3.toUInt64 >>> ((46 : Int32) &&& 0x3f).toInt64.toUInt64).toInt64) &&& (3 : Int64)).toInt32) % (3 : Int32)) <<< ((16 : Int32) &&& 31)))]))
      refine Run.go (fun _ k => XS.iload X9.here hx rfl (hb hby d1_90) rfl  k) ?_
      show Run p e below s 0 0 (Q_rm1_3 Z q1 q2 q3 h0 n0) (T9.setTop (mkF m 92 #[.val (.long q1), .second, .val (.long q2), .second, .val (.long q3), .second, .val (.int (3 : Int32)), .val (.int (0 : Int32)), .val (.int ((((q3.toUInt64 >>> ((46 : Int32) &&& 0x3f).toInt64.toUInt64).toInt64) &&& (3 : Int64)).toInt32)), .val (.int (((((q3.toUInt64 >>> ((46 : Int32) &&& 0x3f).toInt64.toUInt64).toInt64) &&& (3 : Int64)).toInt32) % (3 : Int32))), .val (.int w5), .val (.int w8)] [(.int w5), (.int ((((((q3.toUInt64 >>> ((46 : Int32) &&& 0x3f).toInt64.toUInt64).toInt64) &&& (3 : Int64)).toInt32) % (3 : Int32)) <<< ((16 : Int32) &&& 31)))]))
      refine Run.go (fun _ k => XS.bipush X9.here hx rfl (hb hby d1_92) k) ?_
      show Run p e below s 0 0 (Q_rm1_3 Z q1 q2 q3 h0 n0) (T9.setTop (mkF m 94 #[.val (.long q1), .second, .val (.long q2), .second, .val (.long q3), .second, .val (.int (3 : Int32)), .val (.int (0 : Int32)), .val (.int ((((q3.toUInt64 >>> ((46 : Int32) &&& 0x3f).toInt64.toUInt64).toInt64) &&& (3 : Int64)).toInt32)), .val (.int (((((q3.toUInt64 >>> ((46 : Int32) &&& 0x3f).toInt64.toUInt64).toInt64) &&& (3 : Int64)).toInt32) % (3 : Int32))), .val (.int w5), .val (.int w8)] [(.int (8 : Int32)), (.int w5), (.int ((((((q3.toUInt64 >>> ((46 : Int32) &&& 0x3f).toInt64.toUInt64).toInt64) &&& (3 : Int64)).toInt32) % (3 : Int32)) <<< ((16 : Int32) &&& 31)))]))
      refine Run.go (fun _ k => XS.ishl X9.here hx rfl (hb hby d1_94) rfl k) ?_
      show Run p e below s 0 0 (Q_rm1_3 Z q1 q2 q3 h0 n0) (T9.setTop (mkF m 95 #[.val (.long q1), .second, .val (.long q2), .second, .val (.long q3), .second, .val (.int (3 : Int32)), .val (.int (0 : Int32)), .val (.int ((((q3.toUInt64 >>> ((46 : Int32) &&& 0x3f).toInt64.toUInt64).toInt64) &&& (3 : Int64)).toInt32)), .val (.int (((((q3.toUInt64 >>> ((46 : Int32) &&& 0x3f).toInt64.toUInt64).toInt64) &&& (3 : Int64)).toInt32) % (3 : Int32))), .val (.int w5), .val (.int w8)] [(.int (w5 <<< ((8 : Int32) &&& 31))), (.int ((((((q3.toUInt64 >>> ((46 : Int32) &&& 0x3f).toInt64.toUInt64).toInt64) &&& (3 : Int64)).toInt32) % (3 : Int32)) <<< ((16 : Int32) &&& 31)))]))
      refine Run.go (fun _ k => XS.ior X9.here hx rfl (hb hby d1_95) rfl k) ?_
      show Run p e below s 0 0 (Q_rm1_3 Z q1 q2 q3 h0 n0) (T9.setTop (mkF m 96 #[.val (.long q1), .second, .val (.long q2), .second, .val (.long q3), .second, .val (.int (3 : Int32)), .val (.int (0 : Int32)), .val (.int ((((q3.toUInt64 >>> ((46 : Int32) &&& 0x3f).toInt64.toUInt64).toInt64) &&& (3 : Int64)).toInt32)), .val (.int (((((q3.toUInt64 >>> ((46 : Int32) &&& 0x3f).toInt64.toUInt64).toInt64) &&& (3 : Int64)).toInt32) % (3 : Int32))), .val (.int w5), .val (.int w8)] [(.int (((((((q3.toUInt64 >>> ((46 : Int32) &&& 0x3f).toInt64.toUInt64).toInt64) &&& (3 : Int64)).toInt32) % (3 : Int32)) <<< ((16 : Int32) &&& 31)) ||| (w5 <<< ((8 : Int32) &&& 31))))]))
      refine Run.go (fun _ k => XS.iload X9.here hx rfl (hb hby d1_96) rfl  k) ?_
      show Run p e below s 0 0 (Q_rm1_3 Z q1 q2 q3 h0 n0) (T9.setTop (mkF m 98 #[.val (.long q1), .second, .val (.long q2), .second, .val (.long q3), .second, .val (.int (3 : Int32)), .val (.int (0 : Int32)), .val (.int ((((q3.toUInt64 >>> ((46 : Int32) &&& 0x3f).toInt64.toUInt64).toInt64) &&& (3 : Int64)).toInt32)), .val (.int (((((q3.toUInt64 >>> ((46 : Int32) &&& 0x3f).toInt64.toUInt64).toInt64) &&& (3 : Int64)).toInt32) % (3 : Int32))), .val (.int w5), .val (.int w8)] [(.int w8), (.int (((((((q3.toUInt64 >>> ((46 : Int32) &&& 0x3f).toInt64.toUInt64).toInt64) &&& (3 : Int64)).toInt32) % (3 : Int32)) <<< ((16 : Int32) &&& 31)) ||| (w5 <<< ((8 : Int32) &&& 31))))]))
      refine Run.go (fun _ k => XS.ior X9.here hx rfl (hb hby d1_98) rfl k) ?_
      show Run p e below s 0 0 (Q_rm1_3 Z q1 q2 q3 h0 n0) (T9.setTop (mkF m 99 #[.val (.long q1), .second, .val (.long q2), .second, .val (.long q3), .second, .val (.int (3 : Int32)), .val (.int (0 : Int32)), .val (.int ((((q3.toUInt64 >>> ((46 : Int32) &&& 0x3f).toInt64.toUInt64).toInt64) &&& (3 : Int64)).toInt32)), .val (.int (((((q3.toUInt64 >>> ((46 : Int32) &&& 0x3f).toInt64.toUInt64).toInt64) &&& (3 : Int64)).toInt32) % (3 : Int32))), .val (.int w5), .val (.int w8)] [(.int ((((((((q3.toUInt64 >>> ((46 : Int32) &&& 0x3f).toInt64.toUInt64).toInt64) &&& (3 : Int64)).toInt32) % (3 : Int32)) <<< ((16 : Int32) &&& 31)) ||| (w5 <<< ((8 : Int32) &&& 31))) ||| w8))]))
      refine Run.retI X9 hx Bd.returns Bd.notSynchronized (hb hby d1_99) (by decide) (by decide) ?_
      show Q_rm1_3 Z q1 q2 q3 h0 n0 _ T9.heap _
      exact ⟨congrArg some (congrArg Value.int (show ((((((((q3.toUInt64 >>> ((46 : Int32) &&& 0x3f).toInt64.toUInt64).toInt64) &&& (3 : Int64)).toInt32) % (3 : Int32)) <<< ((16 : Int32) &&& 31)) ||| (w5 <<< ((8 : Int32) &&& 31))) ||| w8) = (F_rm1_3 q1 q2 q3) from (by subst hw8; subst hw5; unfold F_rm1_3; rfl))), N9, e9⟩
    by_cases hc10 : ((((((q3.toUInt64 >>> ((46 : Int32) &&& 0x3f).toInt64.toUInt64).toInt64) &&& (3 : Int64)).toInt32) % (3 : Int32)) < (2 : Int32))
    · refine Run.go (fun _ k => XS.icmpYes X6.here hx rfl (pc0 := 68) (pc' := 85) rfl (hb hby d1_68) rfl (tlt hc10).1 (by decide) (by decide) k) ?_
      show Run p e below s 0 0 (Q_rm1_3 Z q1 q2 q3 h0 n0) (T6.setTop (mkF m 85 #[.val (.long q1), .second, .val (.long q2), .second, .val (.long q3), .second, .val (.int (3 : Int32)), .val (.int (0 : Int32)), .val (.int ((((q3.toUInt64 >>> ((46 : Int32) &&& 0x3f).toInt64.toUInt64).toInt64) &&& (3 : Int64)).toInt32)), .val (.int (((((q3.toUInt64 >>> ((46 : Int32) &&& 0x3f).toInt64.toUInt64).toInt64) &&& (3 : Int64)).toInt32) % (3 : Int32))), .val (.int w5), .val (.int (0 : Int32))] []))
      exact J7 _ (by rw [if_pos hc10]) _ _ X6 e6 N6
    · refine Run.go (fun _ k => XS.icmpNo X6.here hx rfl (hb hby d1_68) rfl (flt hc10).1 k) ?_
      show Run p e below s 0 0 (Q_rm1_3 Z q1 q2 q3 h0 n0) (T6.setTop (mkF m 71 #[.val (.long q1), .second, .val (.long q2), .second, .val (.long q3), .second, .val (.int (3 : Int32)), .val (.int (0 : Int32)), .val (.int ((((q3.toUInt64 >>> ((46 : Int32) &&& 0x3f).toInt64.toUInt64).toInt64) &&& (3 : Int64)).toInt32)), .val (.int (((((q3.toUInt64 >>> ((46 : Int32) &&& 0x3f).toInt64.toUInt64).toInt64) &&& (3 : Int64)).toInt32) % (3 : Int32))), .val (.int w5), .val (.int (0 : Int32))] []))
      refine Run.go (fun _ k => XS.lloadN X6.here hx rfl (hb hby d1_71) rfl  k) ?_
      show Run p e below s 0 0 (Q_rm1_3 Z q1 q2 q3 h0 n0) (T6.setTop (mkF m 72 #[.val (.long q1), .second, .val (.long q2), .second, .val (.long q3), .second, .val (.int (3 : Int32)), .val (.int (0 : Int32)), .val (.int ((((q3.toUInt64 >>> ((46 : Int32) &&& 0x3f).toInt64.toUInt64).toInt64) &&& (3 : Int64)).toInt32)), .val (.int (((((q3.toUInt64 >>> ((46 : Int32) &&& 0x3f).toInt64.toUInt64).toInt64) &&& (3 : Int64)).toInt32) % (3 : Int32))), .val (.int w5), .val (.int (0 : Int32))] [(.long q2)]))
      refine Run.go (fun _ k => XS.bipush X6.here hx rfl (hb hby d1_72) k) ?_
      show Run p e below s 0 0 (Q_rm1_3 Z q1 q2 q3 h0 n0) (T6.setTop (mkF m 74 #[.val (.long q1), .second, .val (.long q2), .second, .val (.long q3), .second, .val (.int (3 : Int32)), .val (.int (0 : Int32)), .val (.int ((((q3.toUInt64 >>> ((46 : Int32) &&& 0x3f).toInt64.toUInt64).toInt64) &&& (3 : Int64)).toInt32)), .val (.int (((((q3.toUInt64 >>> ((46 : Int32) &&& 0x3f).toInt64.toUInt64).toInt64) &&& (3 : Int64)).toInt32) % (3 : Int32))), .val (.int w5), .val (.int (0 : Int32))] [(.int (8 : Int32)), (.long q2)]))
      refine Run.go (fun _ k => XS.iload X6.here hx rfl (hb hby d1_74) rfl  k) ?_
      show Run p e below s 0 0 (Q_rm1_3 Z q1 q2 q3 h0 n0) (T6.setTop (mkF m 76 #[.val (.long q1), .second, .val (.long q2), .second, .val (.long q3), .second, .val (.int (3 : Int32)), .val (.int (0 : Int32)), .val (.int ((((q3.toUInt64 >>> ((46 : Int32) &&& 0x3f).toInt64.toUInt64).toInt64) &&& (3 : Int64)).toInt32)), .val (.int (((((q3.toUInt64 >>> ((46 : Int32) &&& 0x3f).toInt64.toUInt64).toInt64) &&& (3 : Int64)).toInt32) % (3 : Int32))), .val (.int w5), .val (.int (0 : Int32))] [(.int (3 : Int32)), (.int (8 : Int32)), (.long q2)]))
      refine Run.go (fun _ k => XS.imul X6.here hx rfl (hb hby d1_76) rfl k) ?_
      show Run p e below s 0 0 (Q_rm1_3 Z q1 q2 q3 h0 n0) (T6.setTop (mkF m 77 #[.val (.long q1), .second, .val (.long q2), .second, .val (.long q3), .second, .val (.int (3 : Int32)), .val (.int (0 : Int32)), .val (.int ((((q3.toUInt64 >>> ((46 : Int32) &&& 0x3f).toInt64.toUInt64).toInt64) &&& (3 : Int64)).toInt32)), .val (.int (((((q3.toUInt64 >>> ((46 : Int32) &&& 0x3f).toInt64.toUInt64).toInt64) &&& (3 : Int64)).toInt32) % (3 : Int32))), .val (.int w5), .val (.int (0 : Int32))] [(.int (24 : Int32)), (.long q2)]))
      refine Run.go (fun _ k => XS.lushr X6.here hx rfl (hb hby d1_77) rfl k) ?_
      show Run p e below s 0 0 (Q_rm1_3 Z q1 q2 q3 h0 n0) (T6.setTop (mkF m 78 #[.val (.long q1), .second, .val (.long q2), .second, .val (.long q3), .second, .val (.int (3 : Int32)), .val (.int (0 : Int32)), .val (.int ((((q3.toUInt64 >>> ((46 : Int32) &&& 0x3f).toInt64.toUInt64).toInt64) &&& (3 : Int64)).toInt32)), .val (.int (((((q3.toUInt64 >>> ((46 : Int32) &&& 0x3f).toInt64.toUInt64).toInt64) &&& (3 : Int64)).toInt32) % (3 : Int32))), .val (.int w5), .val (.int (0 : Int32))] [(.long ((q2.toUInt64 >>> ((24 : Int32) &&& 0x3f).toInt64.toUInt64).toInt64))]))
      refine Run.go (fun _ k => X6.ldc2Long hx hown (mvT hZ (hw _ (List.mem_of_getElem? (i := 5) rfl))) (g := (mkF m 78 #[.val (.long q1), .second, .val (.long q2), .second, .val (.long q3), .second, .val (.int (3 : Int32)), .val (.int (0 : Int32)), .val (.int ((((q3.toUInt64 >>> ((46 : Int32) &&& 0x3f).toInt64.toUInt64).toInt64) &&& (3 : Int64)).toInt32)), .val (.int (((((q3.toUInt64 >>> ((46 : Int32) &&& 0x3f).toInt64.toUInt64).toInt64) &&& (3 : Int64)).toInt32) % (3 : Int32))), .val (.int w5), .val (.int (0 : Int32))] [(.long ((q2.toUInt64 >>> ((24 : Int32) &&& 0x3f).toInt64.toUInt64).toInt64))])) rfl (hb hby d1_78) _ k) ?_
      show Run p e below s 0 0 (Q_rm1_3 Z q1 q2 q3 h0 n0) (T6.setTop (mkF m 81 #[.val (.long q1), .second, .val (.long q2), .second, .val (.long q3), .second, .val (.int (3 : Int32)), .val (.int (0 : Int32)), .val (.int ((((q3.toUInt64 >>> ((46 : Int32) &&& 0x3f).toInt64.toUInt64).toInt64) &&& (3 : Int64)).toInt32)), .val (.int (((((q3.toUInt64 >>> ((46 : Int32) &&& 0x3f).toInt64.toUInt64).toInt64) &&& (3 : Int64)).toInt32) % (3 : Int32))), .val (.int w5), .val (.int (0 : Int32))] [(.long (255 : Int64)), (.long ((q2.toUInt64 >>> ((24 : Int32) &&& 0x3f).toInt64.toUInt64).toInt64))]))
      refine Run.go (fun _ k => XS.land X6.here hx rfl (hb hby d1_81) rfl k) ?_
      show Run p e below s 0 0 (Q_rm1_3 Z q1 q2 q3 h0 n0) (T6.setTop (mkF m 82 #[.val (.long q1), .second, .val (.long q2), .second, .val (.long q3), .second, .val (.int (3 : Int32)), .val (.int (0 : Int32)), .val (.int ((((q3.toUInt64 >>> ((46 : Int32) &&& 0x3f).toInt64.toUInt64).toInt64) &&& (3 : Int64)).toInt32)), .val (.int (((((q3.toUInt64 >>> ((46 : Int32) &&& 0x3f).toInt64.toUInt64).toInt64) &&& (3 : Int64)).toInt32) % (3 : Int32))), .val (.int w5), .val (.int (0 : Int32))] [(.long (((q2.toUInt64 >>> ((24 : Int32) &&& 0x3f).toInt64.toUInt64).toInt64) &&& (255 : Int64)))]))
      refine Run.go (fun _ k => XS.l2i X6.here hx rfl (hb hby d1_82) rfl k) ?_
      show Run p e below s 0 0 (Q_rm1_3 Z q1 q2 q3 h0 n0) (T6.setTop (mkF m 83 #[.val (.long q1), .second, .val (.long q2), .second, .val (.long q3), .second, .val (.int (3 : Int32)), .val (.int (0 : Int32)), .val (.int ((((q3.toUInt64 >>> ((46 : Int32) &&& 0x3f).toInt64.toUInt64).toInt64) &&& (3 : Int64)).toInt32)), .val (.int (((((q3.toUInt64 >>> ((46 : Int32) &&& 0x3f).toInt64.toUInt64).toInt64) &&& (3 : Int64)).toInt32) % (3 : Int32))), .val (.int w5), .val (.int (0 : Int32))] [(.int ((((q2.toUInt64 >>> ((24 : Int32) &&& 0x3f).toInt64.toUInt64).toInt64) &&& (255 : Int64)).toInt32))]))
      refine Run.go (fun _ k => XS.istore X6.here hx rfl (hb hby d1_83) rfl (l' := #[.val (.long q1), .second, .val (.long q2), .second, .val (.long q3), .second, .val (.int (3 : Int32)), .val (.int (0 : Int32)), .val (.int ((((q3.toUInt64 >>> ((46 : Int32) &&& 0x3f).toInt64.toUInt64).toInt64) &&& (3 : Int64)).toInt32)), .val (.int (((((q3.toUInt64 >>> ((46 : Int32) &&& 0x3f).toInt64.toUInt64).toInt64) &&& (3 : Int64)).toInt32) % (3 : Int32))), .val (.int w5), .val (.int ((((q2.toUInt64 >>> ((24 : Int32) &&& 0x3f).toInt64.toUInt64).toInt64) &&& (255 : Int64)).toInt32))]) rfl k) ?_
      show Run p e below s 0 0 (Q_rm1_3 Z q1 q2 q3 h0 n0) (T6.setTop (mkF m 85 #[.val (.long q1), .second, .val (.long q2), .second, .val (.long q3), .second, .val (.int (3 : Int32)), .val (.int (0 : Int32)), .val (.int ((((q3.toUInt64 >>> ((46 : Int32) &&& 0x3f).toInt64.toUInt64).toInt64) &&& (3 : Int64)).toInt32)), .val (.int (((((q3.toUInt64 >>> ((46 : Int32) &&& 0x3f).toInt64.toUInt64).toInt64) &&& (3 : Int64)).toInt32) % (3 : Int32))), .val (.int w5), .val (.int ((((q2.toUInt64 >>> ((24 : Int32) &&& 0x3f).toInt64.toUInt64).toInt64) &&& (255 : Int64)).toInt32))] []))
      exact J7 _ (by rw [if_neg hc10]) _ _ X6 e6 N6
  by_cases hc11 : ((((((q3.toUInt64 >>> ((46 : Int32) &&& 0x3f).toInt64.toUInt64).toInt64) &&& (3 : Int64)).toInt32) % (3 : Int32)) < (1 : Int32))
  · refine Run.go (fun _ k => XS.icmpYes X0.here hx rfl (pc0 := 48) (pc' := 65) rfl (hb hby d1_48) rfl (tlt hc11).1 (by decide) (by decide) k) ?_
    show Run p e below s 0 0 (Q_rm1_3 Z q1 q2 q3 h0 n0) (s₁.setTop (mkF m 65 #[.val (.long q1), .second, .val (.long q2), .second, .val (.long q3), .second, .val (.int (3 : Int32)), .val (.int (0 : Int32)), .val (.int ((((q3.toUInt64 >>> ((46 : Int32) &&& 0x3f).toInt64.toUInt64).toInt64) &&& (3 : Int64)).toInt32)), .val (.int (((((q3.toUInt64 >>> ((46 : Int32) &&& 0x3f).toInt64.toUInt64).toInt64) &&& (3 : Int64)).toInt32) % (3 : Int32))), .val (.int (0 : Int32)), .val (.int (0 : Int32))] []))
    exact J4 _ (by rw [if_pos hc11]) _ _ X0 e0 N0
  · refine Run.go (fun _ k => XS.icmpNo X0.here hx rfl (hb hby d1_48) rfl (flt hc11).1 k) ?_
    show Run p e below s 0 0 (Q_rm1_3 Z q1 q2 q3 h0 n0) (s₁.setTop (mkF m 51 #[.val (.long q1), .second, .val (.long q2), .second, .val (.long q3), .second, .val (.int (3 : Int32)), .val (.int (0 : Int32)), .val (.int ((((q3.toUInt64 >>> ((46 : Int32) &&& 0x3f).toInt64.toUInt64).toInt64) &&& (3 : Int64)).toInt32)), .val (.int (((((q3.toUInt64 >>> ((46 : Int32) &&& 0x3f).toInt64.toUInt64).toInt64) &&& (3 : Int64)).toInt32) % (3 : Int32))), .val (.int (0 : Int32)), .val (.int (0 : Int32))] []))
    refine Run.go (fun _ k => XS.lloadN X0.here hx rfl (hb hby d1_51) rfl  k) ?_
    show Run p e below s 0 0 (Q_rm1_3 Z q1 q2 q3 h0 n0) (s₁.setTop (mkF m 52 #[.val (.long q1), .second, .val (.long q2), .second, .val (.long q3), .second, .val (.int (3 : Int32)), .val (.int (0 : Int32)), .val (.int ((((q3.toUInt64 >>> ((46 : Int32) &&& 0x3f).toInt64.toUInt64).toInt64) &&& (3 : Int64)).toInt32)), .val (.int (((((q3.toUInt64 >>> ((46 : Int32) &&& 0x3f).toInt64.toUInt64).toInt64) &&& (3 : Int64)).toInt32) % (3 : Int32))), .val (.int (0 : Int32)), .val (.int (0 : Int32))] [(.long q1)]))
    refine Run.go (fun _ k => XS.bipush X0.here hx rfl (hb hby d1_52) k) ?_
    show Run p e below s 0 0 (Q_rm1_3 Z q1 q2 q3 h0 n0) (s₁.setTop (mkF m 54 #[.val (.long q1), .second, .val (.long q2), .second, .val (.long q3), .second, .val (.int (3 : Int32)), .val (.int (0 : Int32)), .val (.int ((((q3.toUInt64 >>> ((46 : Int32) &&& 0x3f).toInt64.toUInt64).toInt64) &&& (3 : Int64)).toInt32)), .val (.int (((((q3.toUInt64 >>> ((46 : Int32) &&& 0x3f).toInt64.toUInt64).toInt64) &&& (3 : Int64)).toInt32) % (3 : Int32))), .val (.int (0 : Int32)), .val (.int (0 : Int32))] [(.int (8 : Int32)), (.long q1)]))
    refine Run.go (fun _ k => XS.iload X0.here hx rfl (hb hby d1_54) rfl  k) ?_
    show Run p e below s 0 0 (Q_rm1_3 Z q1 q2 q3 h0 n0) (s₁.setTop (mkF m 56 #[.val (.long q1), .second, .val (.long q2), .second, .val (.long q3), .second, .val (.int (3 : Int32)), .val (.int (0 : Int32)), .val (.int ((((q3.toUInt64 >>> ((46 : Int32) &&& 0x3f).toInt64.toUInt64).toInt64) &&& (3 : Int64)).toInt32)), .val (.int (((((q3.toUInt64 >>> ((46 : Int32) &&& 0x3f).toInt64.toUInt64).toInt64) &&& (3 : Int64)).toInt32) % (3 : Int32))), .val (.int (0 : Int32)), .val (.int (0 : Int32))] [(.int (3 : Int32)), (.int (8 : Int32)), (.long q1)]))
    refine Run.go (fun _ k => XS.imul X0.here hx rfl (hb hby d1_56) rfl k) ?_
    show Run p e below s 0 0 (Q_rm1_3 Z q1 q2 q3 h0 n0) (s₁.setTop (mkF m 57 #[.val (.long q1), .second, .val (.long q2), .second, .val (.long q3), .second, .val (.int (3 : Int32)), .val (.int (0 : Int32)), .val (.int ((((q3.toUInt64 >>> ((46 : Int32) &&& 0x3f).toInt64.toUInt64).toInt64) &&& (3 : Int64)).toInt32)), .val (.int (((((q3.toUInt64 >>> ((46 : Int32) &&& 0x3f).toInt64.toUInt64).toInt64) &&& (3 : Int64)).toInt32) % (3 : Int32))), .val (.int (0 : Int32)), .val (.int (0 : Int32))] [(.int (24 : Int32)), (.long q1)]))
    refine Run.go (fun _ k => XS.lushr X0.here hx rfl (hb hby d1_57) rfl k) ?_
    show Run p e below s 0 0 (Q_rm1_3 Z q1 q2 q3 h0 n0) (s₁.setTop (mkF m 58 #[.val (.long q1), .second, .val (.long q2), .second, .val (.long q3), .second, .val (.int (3 : Int32)), .val (.int (0 : Int32)), .val (.int ((((q3.toUInt64 >>> ((46 : Int32) &&& 0x3f).toInt64.toUInt64).toInt64) &&& (3 : Int64)).toInt32)), .val (.int (((((q3.toUInt64 >>> ((46 : Int32) &&& 0x3f).toInt64.toUInt64).toInt64) &&& (3 : Int64)).toInt32) % (3 : Int32))), .val (.int (0 : Int32)), .val (.int (0 : Int32))] [(.long ((q1.toUInt64 >>> ((24 : Int32) &&& 0x3f).toInt64.toUInt64).toInt64))]))
    refine Run.go (fun _ k => X0.ldc2Long hx hown (mvT hZ (hw _ (List.mem_of_getElem? (i := 5) rfl))) (g := (mkF m 58 #[.val (.long q1), .second, .val (.long q2), .second, .val (.long q3), .second, .val (.int (3 : Int32)), .val (.int (0 : Int32)), .val (.int ((((q3.toUInt64 >>> ((46 : Int32) &&& 0x3f).toInt64.toUInt64).toInt64) &&& (3 : Int64)).toInt32)), .val (.int (((((q3.toUInt64 >>> ((46 : Int32) &&& 0x3f).toInt64.toUInt64).toInt64) &&& (3 : Int64)).toInt32) % (3 : Int32))), .val (.int (0 : Int32)), .val (.int (0 : Int32))] [(.long ((q1.toUInt64 >>> ((24 : Int32) &&& 0x3f).toInt64.toUInt64).toInt64))])) rfl (hb hby d1_58) _ k) ?_
    show Run p e below s 0 0 (Q_rm1_3 Z q1 q2 q3 h0 n0) (s₁.setTop (mkF m 61 #[.val (.long q1), .second, .val (.long q2), .second, .val (.long q3), .second, .val (.int (3 : Int32)), .val (.int (0 : Int32)), .val (.int ((((q3.toUInt64 >>> ((46 : Int32) &&& 0x3f).toInt64.toUInt64).toInt64) &&& (3 : Int64)).toInt32)), .val (.int (((((q3.toUInt64 >>> ((46 : Int32) &&& 0x3f).toInt64.toUInt64).toInt64) &&& (3 : Int64)).toInt32) % (3 : Int32))), .val (.int (0 : Int32)), .val (.int (0 : Int32))] [(.long (255 : Int64)), (.long ((q1.toUInt64 >>> ((24 : Int32) &&& 0x3f).toInt64.toUInt64).toInt64))]))
    refine Run.go (fun _ k => XS.land X0.here hx rfl (hb hby d1_61) rfl k) ?_
    show Run p e below s 0 0 (Q_rm1_3 Z q1 q2 q3 h0 n0) (s₁.setTop (mkF m 62 #[.val (.long q1), .second, .val (.long q2), .second, .val (.long q3), .second, .val (.int (3 : Int32)), .val (.int (0 : Int32)), .val (.int ((((q3.toUInt64 >>> ((46 : Int32) &&& 0x3f).toInt64.toUInt64).toInt64) &&& (3 : Int64)).toInt32)), .val (.int (((((q3.toUInt64 >>> ((46 : Int32) &&& 0x3f).toInt64.toUInt64).toInt64) &&& (3 : Int64)).toInt32) % (3 : Int32))), .val (.int (0 : Int32)), .val (.int (0 : Int32))] [(.long (((q1.toUInt64 >>> ((24 : Int32) &&& 0x3f).toInt64.toUInt64).toInt64) &&& (255 : Int64)))]))
    refine Run.go (fun _ k => XS.l2i X0.here hx rfl (hb hby d1_62) rfl k) ?_
    show Run p e below s 0 0 (Q_rm1_3 Z q1 q2 q3 h0 n0) (s₁.setTop (mkF m 63 #[.val (.long q1), .second, .val (.long q2), .second, .val (.long q3), .second, .val (.int (3 : Int32)), .val (.int (0 : Int32)), .val (.int ((((q3.toUInt64 >>> ((46 : Int32) &&& 0x3f).toInt64.toUInt64).toInt64) &&& (3 : Int64)).toInt32)), .val (.int (((((q3.toUInt64 >>> ((46 : Int32) &&& 0x3f).toInt64.toUInt64).toInt64) &&& (3 : Int64)).toInt32) % (3 : Int32))), .val (.int (0 : Int32)), .val (.int (0 : Int32))] [(.int ((((q1.toUInt64 >>> ((24 : Int32) &&& 0x3f).toInt64.toUInt64).toInt64) &&& (255 : Int64)).toInt32))]))
    refine Run.go (fun _ k => XS.istore X0.here hx rfl (hb hby d1_63) rfl (l' := #[.val (.long q1), .second, .val (.long q2), .second, .val (.long q3), .second, .val (.int (3 : Int32)), .val (.int (0 : Int32)), .val (.int ((((q3.toUInt64 >>> ((46 : Int32) &&& 0x3f).toInt64.toUInt64).toInt64) &&& (3 : Int64)).toInt32)), .val (.int (((((q3.toUInt64 >>> ((46 : Int32) &&& 0x3f).toInt64.toUInt64).toInt64) &&& (3 : Int64)).toInt32) % (3 : Int32))), .val (.int ((((q1.toUInt64 >>> ((24 : Int32) &&& 0x3f).toInt64.toUInt64).toInt64) &&& (255 : Int64)).toInt32)), .val (.int (0 : Int32))]) rfl k) ?_
    show Run p e below s 0 0 (Q_rm1_3 Z q1 q2 q3 h0 n0) (s₁.setTop (mkF m 65 #[.val (.long q1), .second, .val (.long q2), .second, .val (.long q3), .second, .val (.int (3 : Int32)), .val (.int (0 : Int32)), .val (.int ((((q3.toUInt64 >>> ((46 : Int32) &&& 0x3f).toInt64.toUInt64).toInt64) &&& (3 : Int64)).toInt32)), .val (.int (((((q3.toUInt64 >>> ((46 : Int32) &&& 0x3f).toInt64.toUInt64).toInt64) &&& (3 : Int64)).toInt32) % (3 : Int32))), .val (.int ((((q1.toUInt64 >>> ((24 : Int32) &&& 0x3f).toInt64.toUInt64).toInt64) &&& (255 : Int64)).toInt32)), .val (.int (0 : Int32))] []))
    exact J4 _ (by rw [if_neg hc11]) _ _ X0 e0 N0
def F_rm1_4 (q1 : Int64) (q2 : Int64) (q3 : Int64) : Int32 := let w5 : Int32 := (if (((1 : Int32) + (((((q3.toUInt64 >>> ((48 : Int32) &&& 0x3f).toInt64.toUInt64).toInt64) &&& (3 : Int64)).toInt32) &&& (1 : Int32))) < (1 : Int32)) then (0 : Int32) else ((((q1.toUInt64 >>> ((32 : Int32) &&& 0x3f).toInt64.toUInt64).toInt64) &&& (255 : Int64)).toInt32)); let w8 : Int32 := (if (((1 : Int32) + (((((q3.toUInt64 >>> ((48 : Int32) &&& 0x3f).toInt64.toUInt64).toInt64) &&& (3 : Int64)).toInt32) &&& (1 : Int32))) < (2 : Int32)) then (0 : Int32) else ((((q2.toUInt64 >>> ((32 : Int32) &&& 0x3f).toInt64.toUInt64).toInt64) &&& (255 : Int64)).toInt32)); (((((1 : Int32) + (((((q3.toUInt64 >>> ((48 : Int32) &&& 0x3f).toInt64.toUInt64).toInt64) &&& (3 : Int64)).toInt32) &&& (1 : Int32))) <<< ((16 : Int32) &&& 31)) ||| (w5 <<< ((8 : Int32) &&& 31))) ||| w8)
def Q_rm1_4 (Z : State) (q1 : Int64) (q2 : Int64) (q3 : Int64) (h0 : Heap) (n0 : Nat) (v : Option Value) (h : Heap) (L : List Loc) : Prop := v = some (.int (F_rm1_4 q1 q2 q3)) ∧ Fr n0 L ∧ h = h0
theorem ef_rm1_4 (m : MethodId) (x0 : Int64) (x1 : Int64) (x2 : Int64) : entryFrame m #[(.long x0), (.long x1), (.long x2), (.int (4 : Int32)), (.int (1 : Int32))] 12 = mkF m 0 #[.val (.long x0), .second, .val (.long x1), .second, .val (.long x2), .second, .val (.int (4 : Int32)), .val (.int (1 : Int32)), .unset, .unset, .unset, .unset] [] := by first | (simp [entryFrame, mkF, argsToLocals, Value.category]; done) | rfl
set_option maxRecDepth 65536 in
set_option maxHeartbeats 40000000 in
theorem rm1_4 (l : Launch) (Z : State) (a0 : Array Value) (hw : ∀ d ∈ tables_1, d.before a0 Z = true) (ws : List Jvm.Cond) (q1 : Int64) (q2 : Int64) (q3 : Int64) (h0 : Heap) (n0 : Nat) (Z0 : n0 ≤ h0.size)  :
    MetFree l (⟨"com/example/subjectory/subjectory/heading/ClassLinkEqualsPinLaw", "spec", "(JJJIZ)I"⟩ : MethodName) (head1 (Jvm.Cond.code (⟨"com/example/subjectory/subjectory/heading/ClassLinkEqualsPinLaw", "spec", "(JJJIZ)I"⟩ : MethodName) method_2_code 12 (some .int) :: ws) ({ frames := 0, cells := 0, slots := 0, locals := 0 } : Room)) (fun a U => a = #[(.long q1), (.long q2), (.long q3), (.int (4 : Int32)), (.int (1 : Int32))] ∧ Z.Warmed39 U.vm ∧ U.heap = h0) (fun _ _ _ _ _ => True) (fun _ U o U' => ∃ v L, o = .returned v ∧ Q_rm1_4 Z q1 q2 q3 h0 n0 v U'.heap L ∧ FrameEnd U o U' L ({ frames := 0, cells := 0, slots := 0, locals := 0 } : Room).cells ({ frames := 0, cells := 0, slots := 0, locals := 0 } : Room).slots) := by
  refine MetFree.of_bodySF (plainFor_of_name pn_2) hisR ?_
  intro p e s m args below meth c s₁ Bd hml0 hP hK
  obtain ⟨rfl, hZ, hh⟩ := hP
  have hx := Bd.exec
  have hby := Bd.bytes
  have hml : c.maxLocals = 12 := hml0
  have hown : s.vm.findClass "com/example/subjectory/subjectory/heading/ClassLinkEqualsPinLaw" = some m.cls := findClass_of_methodNamed Bd.named
  have hnm := (name_of_methodNamed Bd.named Bd.method).1
  have X0 : Stand p l e ({ frames := 0, cells := 0, slots := 0, locals := 0 } : Room) s m #[(.long q1), (.long q2), (.long q3), (.int (4 : Int32)), (.int (1 : Int32))] below meth c s₁ [] 0 0 := Stand.of_body Bd
  have e0 : s₁.heap = h0 := by rw [← hh, Bd.state]; rfl
  have N0 := Fr.nil n0
  show Run p e below s 0 0 (Q_rm1_4 Z q1 q2 q3 h0 n0) (s₁.setTop (entryFrame m #[(.long q1), (.long q2), (.long q3), (.int (4 : Int32)), (.int (1 : Int32))] 12))
  refine Run.go (fun _ k => castTop (ef_rm1_4 m q1 q2 q3) k) ?_
  show Run p e below s 0 0 (Q_rm1_4 Z q1 q2 q3 h0 n0) (s₁.setTop (mkF m 0 #[.val (.long q1), .second, .val (.long q2), .second, .val (.long q3), .second, .val (.int (4 : Int32)), .val (.int (1 : Int32)), .unset, .unset, .unset, .unset] []))
  refine Run.go (fun _ k => XS.lload X0.here hx rfl (hb hby d1_0) rfl  k) ?_
  show Run p e below s 0 0 (Q_rm1_4 Z q1 q2 q3 h0 n0) (s₁.setTop (mkF m 2 #[.val (.long q1), .second, .val (.long q2), .second, .val (.long q3), .second, .val (.int (4 : Int32)), .val (.int (1 : Int32)), .unset, .unset, .unset, .unset] [(.long q3)]))
  refine Run.go (fun _ k => XS.bipush X0.here hx rfl (hb hby d1_2) k) ?_
  show Run p e below s 0 0 (Q_rm1_4 Z q1 q2 q3 h0 n0) (s₁.setTop (mkF m 4 #[.val (.long q1), .second, .val (.long q2), .second, .val (.long q3), .second, .val (.int (4 : Int32)), .val (.int (1 : Int32)), .unset, .unset, .unset, .unset] [(.int (40 : Int32)), (.long q3)]))
  refine Run.go (fun _ k => XS.iconst X0.here hx rfl (hb hby d1_4) k) ?_
  show Run p e below s 0 0 (Q_rm1_4 Z q1 q2 q3 h0 n0) (s₁.setTop (mkF m 5 #[.val (.long q1), .second, .val (.long q2), .second, .val (.long q3), .second, .val (.int (4 : Int32)), .val (.int (1 : Int32)), .unset, .unset, .unset, .unset] [(.int (2 : Int32)), (.int (40 : Int32)), (.long q3)]))
  refine Run.go (fun _ k => XS.iload X0.here hx rfl (hb hby d1_5) rfl  k) ?_
  show Run p e below s 0 0 (Q_rm1_4 Z q1 q2 q3 h0 n0) (s₁.setTop (mkF m 7 #[.val (.long q1), .second, .val (.long q2), .second, .val (.long q3), .second, .val (.int (4 : Int32)), .val (.int (1 : Int32)), .unset, .unset, .unset, .unset] [(.int (4 : Int32)), (.int (2 : Int32)), (.int (40 : Int32)), (.long q3)]))
  refine Run.go (fun _ k => XS.imul X0.here hx rfl (hb hby d1_7) rfl k) ?_
  show Run p e below s 0 0 (Q_rm1_4 Z q1 q2 q3 h0 n0) (s₁.setTop (mkF m 8 #[.val (.long q1), .second, .val (.long q2), .second, .val (.long q3), .second, .val (.int (4 : Int32)), .val (.int (1 : Int32)), .unset, .unset, .unset, .unset] [(.int (8 : Int32)), (.int (40 : Int32)), (.long q3)]))
  refine Run.go (fun _ k => XS.iadd X0.here hx rfl (hb hby d1_8) rfl k) ?_
  show Run p e below s 0 0 (Q_rm1_4 Z q1 q2 q3 h0 n0) (s₁.setTop (mkF m 9 #[.val (.long q1), .second, .val (.long q2), .second, .val (.long q3), .second, .val (.int (4 : Int32)), .val (.int (1 : Int32)), .unset, .unset, .unset, .unset] [(.int (48 : Int32)), (.long q3)]))
  refine Run.go (fun _ k => XS.lushr X0.here hx rfl (hb hby d1_9) rfl k) ?_
  show Run p e below s 0 0 (Q_rm1_4 Z q1 q2 q3 h0 n0) (s₁.setTop (mkF m 10 #[.val (.long q1), .second, .val (.long q2), .second, .val (.long q3), .second, .val (.int (4 : Int32)), .val (.int (1 : Int32)), .unset, .unset, .unset, .unset] [(.long ((q3.toUInt64 >>> ((48 : Int32) &&& 0x3f).toInt64.toUInt64).toInt64))]))
  refine Run.go (fun _ k => X0.ldc2Long hx hown (mvT hZ (hw _ (List.mem_of_getElem? (i := 4) rfl))) (g := (mkF m 10 #[.val (.long q1), .second, .val (.long q2), .second, .val (.long q3), .second, .val (.int (4 : Int32)), .val (.int (1 : Int32)), .unset, .unset, .unset, .unset] [(.long ((q3.toUInt64 >>> ((48 : Int32) &&& 0x3f).toInt64.toUInt64).toInt64))])) rfl (hb hby d1_10) _ k) ?_
  show Run p e below s 0 0 (Q_rm1_4 Z q1 q2 q3 h0 n0) (s₁.setTop (mkF m 13 #[.val (.long q1), .second, .val (.long q2), .second, .val (.long q3), .second, .val (.int (4 : Int32)), .val (.int (1 : Int32)), .unset, .unset, .unset, .unset] [(.long (3 : Int64)), (.long ((q3.toUInt64 >>> ((48 : Int32) &&& 0x3f).toInt64.toUInt64).toInt64))]))
  refine Run.go (fun _ k => XS.land X0.here hx rfl (hb hby d1_13) rfl k) ?_
  show Run p e below s 0 0 (Q_rm1_4 Z q1 q2 q3 h0 n0) (s₁.setTop (mkF m 14 #[.val (.long q1), .second, .val (.long q2), .second, .val (.long q3), .second, .val (.int (4 : Int32)), .val (.int (1 : Int32)), .unset, .unset, .unset, .unset] [(.long (((q3.toUInt64 >>> ((48 : Int32) &&& 0x3f).toInt64.toUInt64).toInt64) &&& (3 : Int64)))]))
  refine Run.go (fun _ k => XS.l2i X0.here hx rfl (hb hby d1_14) rfl k) ?_
  show Run p e below s 0 0 (Q_rm1_4 Z q1 q2 q3 h0 n0) (s₁.setTop (mkF m 15 #[.val (.long q1), .second, .val (.long q2), .second, .val (.long q3), .second, .val (.int (4 : Int32)), .val (.int (1 : Int32)), .unset, .unset, .unset, .unset] [(.int ((((q3.toUInt64 >>> ((48 : Int32) &&& 0x3f).toInt64.toUInt64).toInt64) &&& (3 : Int64)).toInt32))]))
  refine Run.go (fun _ k => XS.istore X0.here hx rfl (hb hby d1_15) rfl (l' := #[.val (.long q1), .second, .val (.long q2), .second, .val (.long q3), .second, .val (.int (4 : Int32)), .val (.int (1 : Int32)), .val (.int ((((q3.toUInt64 >>> ((48 : Int32) &&& 0x3f).toInt64.toUInt64).toInt64) &&& (3 : Int64)).toInt32)), .unset, .unset, .unset]) rfl k) ?_
  show Run p e below s 0 0 (Q_rm1_4 Z q1 q2 q3 h0 n0) (s₁.setTop (mkF m 17 #[.val (.long q1), .second, .val (.long q2), .second, .val (.long q3), .second, .val (.int (4 : Int32)), .val (.int (1 : Int32)), .val (.int ((((q3.toUInt64 >>> ((48 : Int32) &&& 0x3f).toInt64.toUInt64).toInt64) &&& (3 : Int64)).toInt32)), .unset, .unset, .unset] []))
  refine Run.go (fun _ k => XS.iload X0.here hx rfl (hb hby d1_17) rfl  k) ?_
  show Run p e below s 0 0 (Q_rm1_4 Z q1 q2 q3 h0 n0) (s₁.setTop (mkF m 19 #[.val (.long q1), .second, .val (.long q2), .second, .val (.long q3), .second, .val (.int (4 : Int32)), .val (.int (1 : Int32)), .val (.int ((((q3.toUInt64 >>> ((48 : Int32) &&& 0x3f).toInt64.toUInt64).toInt64) &&& (3 : Int64)).toInt32)), .unset, .unset, .unset] [(.int (1 : Int32))]))
  refine Run.go (fun _ k => XS.ifNo X0.here hx rfl (hb hby d1_19) rfl ((if0 _ _).trans (feq (by decide)).1) k) ?_
  show Run p e below s 0 0 (Q_rm1_4 Z q1 q2 q3 h0 n0) (s₁.setTop (mkF m 22 #[.val (.long q1), .second, .val (.long q2), .second, .val (.long q3), .second, .val (.int (4 : Int32)), .val (.int (1 : Int32)), .val (.int ((((q3.toUInt64 >>> ((48 : Int32) &&& 0x3f).toInt64.toUInt64).toInt64) &&& (3 : Int64)).toInt32)), .unset, .unset, .unset] []))
  refine Run.go (fun _ k => XS.iconst X0.here hx rfl (hb hby d1_22) k) ?_
  show Run p e below s 0 0 (Q_rm1_4 Z q1 q2 q3 h0 n0) (s₁.setTop (mkF m 23 #[.val (.long q1), .second, .val (.long q2), .second, .val (.long q3), .second, .val (.int (4 : Int32)), .val (.int (1 : Int32)), .val (.int ((((q3.toUInt64 >>> ((48 : Int32) &&& 0x3f).toInt64.toUInt64).toInt64) &&& (3 : Int64)).toInt32)), .unset, .unset, .unset] [(.int (1 : Int32))]))
  refine Run.go (fun _ k => XS.iload X0.here hx rfl (hb hby d1_23) rfl  k) ?_
  show Run p e below s 0 0 (Q_rm1_4 Z q1 q2 q3 h0 n0) (s₁.setTop (mkF m 25 #[.val (.long q1), .second, .val (.long q2), .second, .val (.long q3), .second, .val (.int (4 : Int32)), .val (.int (1 : Int32)), .val (.int ((((q3.toUInt64 >>> ((48 : Int32) &&& 0x3f).toInt64.toUInt64).toInt64) &&& (3 : Int64)).toInt32)), .unset, .unset, .unset] [(.int ((((q3.toUInt64 >>> ((48 : Int32) &&& 0x3f).toInt64.toUInt64).toInt64) &&& (3 : Int64)).toInt32)), (.int (1 : Int32))]))
  refine Run.go (fun _ k => XS.iconst X0.here hx rfl (hb hby d1_25) k) ?_
  show Run p e below s 0 0 (Q_rm1_4 Z q1 q2 q3 h0 n0) (s₁.setTop (mkF m 26 #[.val (.long q1), .second, .val (.long q2), .second, .val (.long q3), .second, .val (.int (4 : Int32)), .val (.int (1 : Int32)), .val (.int ((((q3.toUInt64 >>> ((48 : Int32) &&& 0x3f).toInt64.toUInt64).toInt64) &&& (3 : Int64)).toInt32)), .unset, .unset, .unset] [(.int (1 : Int32)), (.int ((((q3.toUInt64 >>> ((48 : Int32) &&& 0x3f).toInt64.toUInt64).toInt64) &&& (3 : Int64)).toInt32)), (.int (1 : Int32))]))
  refine Run.go (fun _ k => XS.iand X0.here hx rfl (hb hby d1_26) rfl k) ?_
  show Run p e below s 0 0 (Q_rm1_4 Z q1 q2 q3 h0 n0) (s₁.setTop (mkF m 27 #[.val (.long q1), .second, .val (.long q2), .second, .val (.long q3), .second, .val (.int (4 : Int32)), .val (.int (1 : Int32)), .val (.int ((((q3.toUInt64 >>> ((48 : Int32) &&& 0x3f).toInt64.toUInt64).toInt64) &&& (3 : Int64)).toInt32)), .unset, .unset, .unset] [(.int (((((q3.toUInt64 >>> ((48 : Int32) &&& 0x3f).toInt64.toUInt64).toInt64) &&& (3 : Int64)).toInt32) &&& (1 : Int32))), (.int (1 : Int32))]))
  refine Run.go (fun _ k => XS.iadd X0.here hx rfl (hb hby d1_27) rfl k) ?_
  show Run p e below s 0 0 (Q_rm1_4 Z q1 q2 q3 h0 n0) (s₁.setTop (mkF m 28 #[.val (.long q1), .second, .val (.long q2), .second, .val (.long q3), .second, .val (.int (4 : Int32)), .val (.int (1 : Int32)), .val (.int ((((q3.toUInt64 >>> ((48 : Int32) &&& 0x3f).toInt64.toUInt64).toInt64) &&& (3 : Int64)).toInt32)), .unset, .unset, .unset] [(.int ((1 : Int32) + (((((q3.toUInt64 >>> ((48 : Int32) &&& 0x3f).toInt64.toUInt64).toInt64) &&& (3 : Int64)).toInt32) &&& (1 : Int32))))]))
  refine Run.go (fun _ k => XS.istore X0.here hx rfl (hb hby d1_28) rfl (l' := #[.val (.long q1), .second, .val (.long q2), .second, .val (.long q3), .second, .val (.int (4 : Int32)), .val (.int (1 : Int32)), .val (.int ((((q3.toUInt64 >>> ((48 : Int32) &&& 0x3f).toInt64.toUInt64).toInt64) &&& (3 : Int64)).toInt32)), .val (.int ((1 : Int32) + (((((q3.toUInt64 >>> ((48 : Int32) &&& 0x3f).toInt64.toUInt64).toInt64) &&& (3 : Int64)).toInt32) &&& (1 : Int32)))), .unset, .unset]) rfl k) ?_
  show Run p e below s 0 0 (Q_rm1_4 Z q1 q2 q3 h0 n0) (s₁.setTop (mkF m 30 #[.val (.long q1), .second, .val (.long q2), .second, .val (.long q3), .second, .val (.int (4 : Int32)), .val (.int (1 : Int32)), .val (.int ((((q3.toUInt64 >>> ((48 : Int32) &&& 0x3f).toInt64.toUInt64).toInt64) &&& (3 : Int64)).toInt32)), .val (.int ((1 : Int32) + (((((q3.toUInt64 >>> ((48 : Int32) &&& 0x3f).toInt64.toUInt64).toInt64) &&& (3 : Int64)).toInt32) &&& (1 : Int32)))), .unset, .unset] []))
  refine Run.go (fun _ k => XS.goto X0.here hx rfl (pc0 := 30) (pc' := 39) rfl (hb hby d1_30) (by decide) (by decide) k) ?_
  show Run p e below s 0 0 (Q_rm1_4 Z q1 q2 q3 h0 n0) (s₁.setTop (mkF m 39 #[.val (.long q1), .second, .val (.long q2), .second, .val (.long q3), .second, .val (.int (4 : Int32)), .val (.int (1 : Int32)), .val (.int ((((q3.toUInt64 >>> ((48 : Int32) &&& 0x3f).toInt64.toUInt64).toInt64) &&& (3 : Int64)).toInt32)), .val (.int ((1 : Int32) + (((((q3.toUInt64 >>> ((48 : Int32) &&& 0x3f).toInt64.toUInt64).toInt64) &&& (3 : Int64)).toInt32) &&& (1 : Int32)))), .unset, .unset] []))
  refine Run.go (fun _ k => XS.iconst X0.here hx rfl (hb hby d1_39) k) ?_
  show Run p e below s 0 0 (Q_rm1_4 Z q1 q2 q3 h0 n0) (s₁.setTop (mkF m 40 #[.val (.long q1), .second, .val (.long q2), .second, .val (.long q3), .second, .val (.int (4 : Int32)), .val (.int (1 : Int32)), .val (.int ((((q3.toUInt64 >>> ((48 : Int32) &&& 0x3f).toInt64.toUInt64).toInt64) &&& (3 : Int64)).toInt32)), .val (.int ((1 : Int32) + (((((q3.toUInt64 >>> ((48 : Int32) &&& 0x3f).toInt64.toUInt64).toInt64) &&& (3 : Int64)).toInt32) &&& (1 : Int32)))), .unset, .unset] [(.int (0 : Int32))]))
  refine Run.go (fun _ k => XS.istore X0.here hx rfl (hb hby d1_40) rfl (l' := #[.val (.long q1), .second, .val (.long q2), .second, .val (.long q3), .second, .val (.int (4 : Int32)), .val (.int (1 : Int32)), .val (.int ((((q3.toUInt64 >>> ((48 : Int32) &&& 0x3f).toInt64.toUInt64).toInt64) &&& (3 : Int64)).toInt32)), .val (.int ((1 : Int32) + (((((q3.toUInt64 >>> ((48 : Int32) &&& 0x3f).toInt64.toUInt64).toInt64) &&& (3 : Int64)).toInt32) &&& (1 : Int32)))), .val (.int (0 : Int32)), .unset]) rfl k) ?_
  show Run p e below s 0 0 (Q_rm1_4 Z q1 q2 q3 h0 n0) (s₁.setTop (mkF m 42 #[.val (.long q1), .second, .val (.long q2), .second, .val (.long q3), .second, .val (.int (4 : Int32)), .val (.int (1 : Int32)), .val (.int ((((q3.toUInt64 >>> ((48 : Int32) &&& 0x3f).toInt64.toUInt64).toInt64) &&& (3 : Int64)).toInt32)), .val (.int ((1 : Int32) + (((((q3.toUInt64 >>> ((48 : Int32) &&& 0x3f).toInt64.toUInt64).toInt64) &&& (3 : Int64)).toInt32) &&& (1 : Int32)))), .val (.int (0 : Int32)), .unset] []))
  refine Run.go (fun _ k => XS.iconst X0.here hx rfl (hb hby d1_42) k) ?_
  show Run p e below s 0 0 (Q_rm1_4 Z q1 q2 q3 h0 n0) (s₁.setTop (mkF m 43 #[.val (.long q1), .second, .val (.long q2), .second, .val (.long q3), .second, .val (.int (4 : Int32)), .val (.int (1 : Int32)), .val (.int ((((q3.toUInt64 >>> ((48 : Int32) &&& 0x3f).toInt64.toUInt64).toInt64) &&& (3 : Int64)).toInt32)), .val (.int ((1 : Int32) + (((((q3.toUInt64 >>> ((48 : Int32) &&& 0x3f).toInt64.toUInt64).toInt64) &&& (3 : Int64)).toInt32) &&& (1 : Int32)))), .val (.int (0 : Int32)), .unset] [(.int (0 : Int32))]))
  refine Run.go (fun _ k => XS.istore X0.here hx rfl (hb hby d1_43) rfl (l' := #[.val (.long q1), .second, .val (.long q2), .second, .val (.long q3), .second, .val (.int (4 : Int32)), .val (.int (1 : Int32)), .val (.int ((((q3.toUInt64 >>> ((48 : Int32) &&& 0x3f).toInt64.toUInt64).toInt64) &&& (3 : Int64)).toInt32)), .val (.int ((1 : Int32) + (((((q3.toUInt64 >>> ((48 : Int32) &&& 0x3f).toInt64.toUInt64).toInt64) &&& (3 : Int64)).toInt32) &&& (1 : Int32)))), .val (.int (0 : Int32)), .val (.int (0 : Int32))]) rfl k) ?_
  show Run p e below s 0 0 (Q_rm1_4 Z q1 q2 q3 h0 n0) (s₁.setTop (mkF m 45 #[.val (.long q1), .second, .val (.long q2), .second, .val (.long q3), .second, .val (.int (4 : Int32)), .val (.int (1 : Int32)), .val (.int ((((q3.toUInt64 >>> ((48 : Int32) &&& 0x3f).toInt64.toUInt64).toInt64) &&& (3 : Int64)).toInt32)), .val (.int ((1 : Int32) + (((((q3.toUInt64 >>> ((48 : Int32) &&& 0x3f).toInt64.toUInt64).toInt64) &&& (3 : Int64)).toInt32) &&& (1 : Int32)))), .val (.int (0 : Int32)), .val (.int (0 : Int32))] []))
  refine Run.go (fun _ k => XS.iload X0.here hx rfl (hb hby d1_45) rfl  k) ?_
  show Run p e below s 0 0 (Q_rm1_4 Z q1 q2 q3 h0 n0) (s₁.setTop (mkF m 47 #[.val (.long q1), .second, .val (.long q2), .second, .val (.long q3), .second, .val (.int (4 : Int32)), .val (.int (1 : Int32)), .val (.int ((((q3.toUInt64 >>> ((48 : Int32) &&& 0x3f).toInt64.toUInt64).toInt64) &&& (3 : Int64)).toInt32)), .val (.int ((1 : Int32) + (((((q3.toUInt64 >>> ((48 : Int32) &&& 0x3f).toInt64.toUInt64).toInt64) &&& (3 : Int64)).toInt32) &&& (1 : Int32)))), .val (.int (0 : Int32)), .val (.int (0 : Int32))] [(.int ((1 : Int32) + (((((q3.toUInt64 >>> ((48 : Int32) &&& 0x3f).toInt64.toUInt64).toInt64) &&& (3 : Int64)).toInt32) &&& (1 : Int32))))]))
  refine Run.go (fun _ k => XS.iconst X0.here hx rfl (hb hby d1_47) k) ?_
  show Run p e below s 0 0 (Q_rm1_4 Z q1 q2 q3 h0 n0) (s₁.setTop (mkF m 48 #[.val (.long q1), .second, .val (.long q2), .second, .val (.long q3), .second, .val (.int (4 : Int32)), .val (.int (1 : Int32)), .val (.int ((((q3.toUInt64 >>> ((48 : Int32) &&& 0x3f).toInt64.toUInt64).toInt64) &&& (3 : Int64)).toInt32)), .val (.int ((1 : Int32) + (((((q3.toUInt64 >>> ((48 : Int32) &&& 0x3f).toInt64.toUInt64).toInt64) &&& (3 : Int64)).toInt32) &&& (1 : Int32)))), .val (.int (0 : Int32)), .val (.int (0 : Int32))] [(.int (1 : Int32)), (.int ((1 : Int32) + (((((q3.toUInt64 >>> ((48 : Int32) &&& 0x3f).toInt64.toUInt64).toInt64) &&& (3 : Int64)).toInt32) &&& (1 : Int32))))]))
  have J4 : ∀ (w5 : Int32) (hw5 : w5 = (if (((1 : Int32) + (((((q3.toUInt64 >>> ((48 : Int32) &&& 0x3f).toInt64.toUInt64).toInt64) &&& (3 : Int64)).toInt32) &&& (1 : Int32))) < (1 : Int32)) then (0 : Int32) else ((((q1.toUInt64 >>> ((32 : Int32) &&& 0x3f).toInt64.toUInt64).toInt64) &&& (255 : Int64)).toInt32))) (T6 : State) (L6 : List Loc) (X6 : Stand p l e ({ frames := 0, cells := 0, slots := 0, locals := 0 } : Room) s m #[(.long q1), (.long q2), (.long q3), (.int (4 : Int32)), (.int (1 : Int32))] below meth c T6 L6 0 0) (e6 : T6.heap = h0) (N6 : Fr n0 L6), Run p e below s 0 0 (Q_rm1_4 Z q1 q2 q3 h0 n0) (T6.setTop (mkF m 65 #[.val (.long q1), .second, .val (.long q2), .second, .val (.long q3), .second, .val (.int (4 : Int32)), .val (.int (1 : Int32)), .val (.int ((((q3.toUInt64 >>> ((48 : Int32) &&& 0x3f).toInt64.toUInt64).toInt64) &&& (3 : Int64)).toInt32)), .val (.int ((1 : Int32) + (((((q3.toUInt64 >>> ((48 : Int32) &&& 0x3f).toInt64.toUInt64).toInt64) &&& (3 : Int64)).toInt32) &&& (1 : Int32)))), .val (.int w5), .val (.int (0 : Int32))] [])) := by
    intro w5 hw5 T6 L6 X6 e6 N6
    show Run p e below s 0 0 (Q_rm1_4 Z q1 q2 q3 h0 n0) (T6.setTop (mkF m 65 #[.val (.long q1), .second, .val (.long q2), .second, .val (.long q3), .second, .val (.int (4 : Int32)), .val (.int (1 : Int32)), .val (.int ((((q3.toUInt64 >>> ((48 : Int32) &&& 0x3f).toInt64.toUInt64).toInt64) &&& (3 : Int64)).toInt32)), .val (.int ((1 : Int32) + (((((q3.toUInt64 >>> ((48 : Int32) &&& 0x3f).toInt64.toUInt64).toInt64) &&& (3 : Int64)).toInt32) &&& (1 : Int32)))), .val (.int w5), .val (.int (0 : Int32))] []))
    refine Run.go (fun _ k => XS.iload X6.here hx rfl (hb hby d1_65) rfl  k) ?_
    show Run p e below s 0 0 (Q_rm1_4 Z q1 q2 q3 h0 n0) (T6.setTop (mkF m 67 #[.val (.long q1), .second, .val (.long q2), .second, .val (.long q3), .second, .val (.int (4 : Int32)), .val (.int (1 : Int32)), .val (.int ((((q3.toUInt64 >>> ((48 : Int32) &&& 0x3f).toInt64.toUInt64).toInt64) &&& (3 : Int64)).toInt32)), .val (.int ((1 : Int32) + (((((q3.toUInt64 >>> ((48 : Int32) &&& 0x3f).toInt64.toUInt64).toInt64) &&& (3 : Int64)).toInt32) &&& (1 : Int32)))), .val (.int w5), .val (.int (0 : Int32))] [(.int ((1 : Int32) + (((((q3.toUInt64 >>> ((48 : Int32) &&& 0x3f).toInt64.toUInt64).toInt64) &&& (3 : Int64)).toInt32) &&& (1 : Int32))))]))
    refine Run.go (fun _ k => XS.iconst X6.here hx rfl (hb hby d1_67) k) ?_
    show Run p e below s 0 0 (Q_rm1_4 Z q1 q2 q3 h0 n0) (T6.setTop (mkF m 68 #[.val (.long q1), .second, .val (.long q2), .second, .val (.long q3), .second, .val (.int (4 : Int32)), .val (.int (1 : Int32)), .val (.int ((((q3.toUInt64 >>> ((48 : Int32) &&& 0x3f).toInt64.toUInt64).toInt64) &&& (3 : Int64)).toInt32)), .val (.int ((1 : Int32) + (((((q3.toUInt64 >>> ((48 : Int32) &&& 0x3f).toInt64.toUInt64).toInt64) &&& (3 : Int64)).toInt32) &&& (1 : Int32)))), .val (.int w5), .val (.int (0 : Int32))] [(.int (2 : Int32)), (.int ((1 : Int32) + (((((q3.toUInt64 >>> ((48 : Int32) &&& 0x3f).toInt64.toUInt64).toInt64) &&& (3 : Int64)).toInt32) &&& (1 : Int32))))]))
    have J7 : ∀ (w8 : Int32) (hw8 : w8 = (if (((1 : Int32) + (((((q3.toUInt64 >>> ((48 : Int32) &&& 0x3f).toInt64.toUInt64).toInt64) &&& (3 : Int64)).toInt32) &&& (1 : Int32))) < (2 : Int32)) then (0 : Int32) else ((((q2.toUInt64 >>> ((32 : Int32) &&& 0x3f).toInt64.toUInt64).toInt64) &&& (255 : Int64)).toInt32))) (T9 : State) (L9 : List Loc) (X9 : Stand p l e ({ frames := 0, cells := 0, slots := 0, locals := 0 } : Room) s m #[(.long q1), (.long q2), (.long q3), (.int (4 : Int32)), (.int (1 : Int32))] below meth c T9 L9 0 0) (e9 : T9.heap = h0) (N9 : Fr n0 L9), Run p e below s 0 0 (Q_rm1_4 Z q1 q2 q3 h0 n0) (T9.setTop (mkF m 85 #[.val (.long q1), .second, .val (.long q2), .second, .val (.long q3), .second, .val (.int (4 : Int32)), .val (.int (1 : Int32)), .val (.int ((((q3.toUInt64 >>> ((48 : Int32) &&& 0x3f).toInt64.toUInt64).toInt64) &&& (3 : Int64)).toInt32)), .val (.int ((1 : Int32) + (((((q3.toUInt64 >>> ((48 : Int32) &&& 0x3f).toInt64.toUInt64).toInt64) &&& (3 : Int64)).toInt32) &&& (1 : Int32)))), .val (.int w5), .val (.int w8)] [])) := by
      intro w8 hw8 T9 L9 X9 e9 N9
      show Run p e below s 0 0 (Q_rm1_4 Z q1 q2 q3 h0 n0) (T9.setTop (mkF m 85 #[.val (.long q1), .second, .val (.long q2), .second, .val (.long q3), .second, .val (.int (4 : Int32)), .val (.int (1 : Int32)), .val (.int ((((q3.toUInt64 >>> ((48 : Int32) &&& 0x3f).toInt64.toUInt64).toInt64) &&& (3 : Int64)).toInt32)), .val (.int ((1 : Int32) + (((((q3.toUInt64 >>> ((48 : Int32) &&& 0x3f).toInt64.toUInt64).toInt64) &&& (3 : Int64)).toInt32) &&& (1 : Int32)))), .val (.int w5), .val (.int w8)] []))
      refine Run.go (fun _ k => XS.iload X9.here hx rfl (hb hby d1_85) rfl  k) ?_
      show Run p e below s 0 0 (Q_rm1_4 Z q1 q2 q3 h0 n0) (T9.setTop (mkF m 87 #[.val (.long q1), .second, .val (.long q2), .second, .val (.long q3), .second, .val (.int (4 : Int32)), .val (.int (1 : Int32)), .val (.int ((((q3.toUInt64 >>> ((48 : Int32) &&& 0x3f).toInt64.toUInt64).toInt64) &&& (3 : Int64)).toInt32)), .val (.int ((1 : Int32) + (((((q3.toUInt64 >>> ((48 : Int32) &&& 0x3f).toInt64.toUInt64).toInt64) &&& (3 : Int64)).toInt32) &&& (1 : Int32)))), .val (.int w5), .val (.int w8)] [(.int ((1 : Int32) + (((((q3.toUInt64 >>> ((48 : Int32) &&& 0x3f).toInt64.toUInt64).toInt64) &&& (3 : Int64)).toInt32) &&& (1 : Int32))))]))
      refine Run.go (fun _ k => XS.bipush X9.here hx rfl (hb hby d1_87) k) ?_
      show Run p e below s 0 0 (Q_rm1_4 Z q1 q2 q3 h0 n0) (T9.setTop (mkF m 89 #[.val (.long q1), .second, .val (.long q2), .second, .val (.long q3), .second, .val (.int (4 : Int32)), .val (.int (1 : Int32)), .val (.int ((((q3.toUInt64 >>> ((48 : Int32) &&& 0x3f).toInt64.toUInt64).toInt64) &&& (3 : Int64)).toInt32)), .val (.int ((1 : Int32) + (((((q3.toUInt64 >>> ((48 : Int32) &&& 0x3f).toInt64.toUInt64).toInt64) &&& (3 : Int64)).toInt32) &&& (1 : Int32)))), .val (.int w5), .val (.int w8)] [(.int (16 : Int32)), (.int ((1 : Int32) + (((((q3.toUInt64 >>> ((48 : Int32) &&& 0x3f).toInt64.toUInt64).toInt64) &&& (3 : Int64)).toInt32) &&& (1 : Int32))))]))
      refine Run.go (fun _ k => XS.ishl X9.here hx rfl (hb hby d1_89) rfl k) ?_
      show Run p e below s 0 0 (Q_rm1_4 Z q1 q2 q3 h0 n0) (T9.setTop (mkF m 90 #[.val (.long q1), .second, .val (.long q2), .second, .val (.long q3), .second, .val (.int (4 : Int32)), .val (.int (1 : Int32)), .val (.int ((((q3.toUInt64 >>> ((48 : Int32) &&& 0x3f).toInt64.toUInt64).toInt64) &&& (3 : Int64)).toInt32)), .val (.int ((1 : Int32) + (((((q3.toUInt64 >>> ((48 : Int32) &&& 0x3f).toInt64.toUInt64).toInt64) &&& (3 : Int64)).toInt32) &&& (1 : Int32)))), .val (.int w5), .val (.int w8)] [(.int (((1 : Int32) + (((((q3.toUInt64 >>> ((48 : Int32) &&& 0x3f).toInt64.toUInt64).toInt64) &&& (3 : Int64)).toInt32) &&& (1 : Int32))) <<< ((16 : Int32) &&& 31)))]))
      refine Run.go (fun _ k => XS.iload X9.here hx rfl (hb hby d1_90) rfl  k) ?_
      show Run p e below s 0 0 (Q_rm1_4 Z q1 q2 q3 h0 n0) (T9.setTop (mkF m 92 #[.val (.long q1), .second, .val (.long q2), .second, .val (.long q3), .second, .val (.int (4 : Int32)), .val (.int (1 : Int32)), .val (.int ((((q3.toUInt64 >>> ((48 : Int32) &&& 0x3f).toInt64.toUInt64).toInt64) &&& (3 : Int64)).toInt32)), .val (.int ((1 : Int32) + (((((q3.toUInt64 >>> ((48 : Int32) &&& 0x3f).toInt64.toUInt64).toInt64) &&& (3 : Int64)).toInt32) &&& (1 : Int32)))), .val (.int w5), .val (.int w8)] [(.int w5), (.int (((1 : Int32) + (((((q3.toUInt64 >>> ((48 : Int32) &&& 0x3f).toInt64.toUInt64).toInt64) &&& (3 : Int64)).toInt32) &&& (1 : Int32))) <<< ((16 : Int32) &&& 31)))]))
      refine Run.go (fun _ k => XS.bipush X9.here hx rfl (hb hby d1_92) k) ?_
      show Run p e below s 0 0 (Q_rm1_4 Z q1 q2 q3 h0 n0) (T9.setTop (mkF m 94 #[.val (.long q1), .second, .val (.long q2), .second, .val (.long q3), .second, .val (.int (4 : Int32)), .val (.int (1 : Int32)), .val (.int ((((q3.toUInt64 >>> ((48 : Int32) &&& 0x3f).toInt64.toUInt64).toInt64) &&& (3 : Int64)).toInt32)), .val (.int ((1 : Int32) + (((((q3.toUInt64 >>> ((48 : Int32) &&& 0x3f).toInt64.toUInt64).toInt64) &&& (3 : Int64)).toInt32) &&& (1 : Int32)))), .val (.int w5), .val (.int w8)] [(.int (8 : Int32)), (.int w5), (.int (((1 : Int32) + (((((q3.toUInt64 >>> ((48 : Int32) &&& 0x3f).toInt64.toUInt64).toInt64) &&& (3 : Int64)).toInt32) &&& (1 : Int32))) <<< ((16 : Int32) &&& 31)))]))
      refine Run.go (fun _ k => XS.ishl X9.here hx rfl (hb hby d1_94) rfl k) ?_
      show Run p e below s 0 0 (Q_rm1_4 Z q1 q2 q3 h0 n0) (T9.setTop (mkF m 95 #[.val (.long q1), .second, .val (.long q2), .second, .val (.long q3), .second, .val (.int (4 : Int32)), .val (.int (1 : Int32)), .val (.int ((((q3.toUInt64 >>> ((48 : Int32) &&& 0x3f).toInt64.toUInt64).toInt64) &&& (3 : Int64)).toInt32)), .val (.int ((1 : Int32) + (((((q3.toUInt64 >>> ((48 : Int32) &&& 0x3f).toInt64.toUInt64).toInt64) &&& (3 : Int64)).toInt32) &&& (1 : Int32)))), .val (.int w5), .val (.int w8)] [(.int (w5 <<< ((8 : Int32) &&& 31))), (.int (((1 : Int32) + (((((q3.toUInt64 >>> ((48 : Int32) &&& 0x3f).toInt64.toUInt64).toInt64) &&& (3 : Int64)).toInt32) &&& (1 : Int32))) <<< ((16 : Int32) &&& 31)))]))
      refine Run.go (fun _ k => XS.ior X9.here hx rfl (hb hby d1_95) rfl k) ?_
      show Run p e below s 0 0 (Q_rm1_4 Z q1 q2 q3 h0 n0) (T9.setTop (mkF m 96 #[.val (.long q1), .second, .val (.long q2), .second, .val (.long q3), .second, .val (.int (4 : Int32)), .val (.int (1 : Int32)), .val (.int ((((q3.toUInt64 >>> ((48 : Int32) &&& 0x3f).toInt64.toUInt64).toInt64) &&& (3 : Int64)).toInt32)), .val (.int ((1 : Int32) + (((((q3.toUInt64 >>> ((48 : Int32) &&& 0x3f).toInt64.toUInt64).toInt64) &&& (3 : Int64)).toInt32) &&& (1 : Int32)))), .val (.int w5), .val (.int w8)] [(.int ((((1 : Int32) + (((((q3.toUInt64 >>> ((48 : Int32) &&& 0x3f).toInt64.toUInt64).toInt64) &&& (3 : Int64)).toInt32) &&& (1 : Int32))) <<< ((16 : Int32) &&& 31)) ||| (w5 <<< ((8 : Int32) &&& 31))))]))
      refine Run.go (fun _ k => XS.iload X9.here hx rfl (hb hby d1_96) rfl  k) ?_
      show Run p e below s 0 0 (Q_rm1_4 Z q1 q2 q3 h0 n0) (T9.setTop (mkF m 98 #[.val (.long q1), .second, .val (.long q2), .second, .val (.long q3), .second, .val (.int (4 : Int32)), .val (.int (1 : Int32)), .val (.int ((((q3.toUInt64 >>> ((48 : Int32) &&& 0x3f).toInt64.toUInt64).toInt64) &&& (3 : Int64)).toInt32)), .val (.int ((1 : Int32) + (((((q3.toUInt64 >>> ((48 : Int32) &&& 0x3f).toInt64.toUInt64).toInt64) &&& (3 : Int64)).toInt32) &&& (1 : Int32)))), .val (.int w5), .val (.int w8)] [(.int w8), (.int ((((1 : Int32) + (((((q3.toUInt64 >>> ((48 : Int32) &&& 0x3f).toInt64.toUInt64).toInt64) &&& (3 : Int64)).toInt32) &&& (1 : Int32))) <<< ((16 : Int32) &&& 31)) ||| (w5 <<< ((8 : Int32) &&& 31))))]))
      refine Run.go (fun _ k => XS.ior X9.here hx rfl (hb hby d1_98) rfl k) ?_
      show Run p e below s 0 0 (Q_rm1_4 Z q1 q2 q3 h0 n0) (T9.setTop (mkF m 99 #[.val (.long q1), .second, .val (.long q2), .second, .val (.long q3), .second, .val (.int (4 : Int32)), .val (.int (1 : Int32)), .val (.int ((((q3.toUInt64 >>> ((48 : Int32) &&& 0x3f).toInt64.toUInt64).toInt64) &&& (3 : Int64)).toInt32)), .val (.int ((1 : Int32) + (((((q3.toUInt64 >>> ((48 : Int32) &&& 0x3f).toInt64.toUInt64).toInt64) &&& (3 : Int64)).toInt32) &&& (1 : Int32)))), .val (.int w5), .val (.int w8)] [(.int (((((1 : Int32) + (((((q3.toUInt64 >>> ((48 : Int32) &&& 0x3f).toInt64.toUInt64).toInt64) &&& (3 : Int64)).toInt32) &&& (1 : Int32))) <<< ((16 : Int32) &&& 31)) ||| (w5 <<< ((8 : Int32) &&& 31))) ||| w8))]))
      refine Run.retI X9 hx Bd.returns Bd.notSynchronized (hb hby d1_99) (by decide) (by decide) ?_
      show Q_rm1_4 Z q1 q2 q3 h0 n0 _ T9.heap _
      exact ⟨congrArg some (congrArg Value.int (show (((((1 : Int32) + (((((q3.toUInt64 >>> ((48 : Int32) &&& 0x3f).toInt64.toUInt64).toInt64) &&& (3 : Int64)).toInt32) &&& (1 : Int32))) <<< ((16 : Int32) &&& 31)) ||| (w5 <<< ((8 : Int32) &&& 31))) ||| w8) = (F_rm1_4 q1 q2 q3) from (by subst hw8; subst hw5; unfold F_rm1_4; rfl))), N9, e9⟩
    by_cases hc10 : (((1 : Int32) + (((((q3.toUInt64 >>> ((48 : Int32) &&& 0x3f).toInt64.toUInt64).toInt64) &&& (3 : Int64)).toInt32) &&& (1 : Int32))) < (2 : Int32))
    · refine Run.go (fun _ k => XS.icmpYes X6.here hx rfl (pc0 := 68) (pc' := 85) rfl (hb hby d1_68) rfl (tlt hc10).1 (by decide) (by decide) k) ?_
      show Run p e below s 0 0 (Q_rm1_4 Z q1 q2 q3 h0 n0) (T6.setTop (mkF m 85 #[.val (.long q1), .second, .val (.long q2), .second, .val (.long q3), .second, .val (.int (4 : Int32)), .val (.int (1 : Int32)), .val (.int ((((q3.toUInt64 >>> ((48 : Int32) &&& 0x3f).toInt64.toUInt64).toInt64) &&& (3 : Int64)).toInt32)), .val (.int ((1 : Int32) + (((((q3.toUInt64 >>> ((48 : Int32) &&& 0x3f).toInt64.toUInt64).toInt64) &&& (3 : Int64)).toInt32) &&& (1 : Int32)))), .val (.int w5), .val (.int (0 : Int32))] []))
      exact J7 _ (by rw [if_pos hc10]) _ _ X6 e6 N6
    · refine Run.go (fun _ k => XS.icmpNo X6.here hx rfl (hb hby d1_68) rfl (flt hc10).1 k) ?_
      show Run p e below s 0 0 (Q_rm1_4 Z q1 q2 q3 h0 n0) (T6.setTop (mkF m 71 #[.val (.long q1), .second, .val (.long q2), .second, .val (.long q3), .second, .val (.int (4 : Int32)), .val (.int (1 : Int32)), .val (.int ((((q3.toUInt64 >>> ((48 : Int32) &&& 0x3f).toInt64.toUInt64).toInt64) &&& (3 : Int64)).toInt32)), .val (.int ((1 : Int32) + (((((q3.toUInt64 >>> ((48 : Int32) &&& 0x3f).toInt64.toUInt64).toInt64) &&& (3 : Int64)).toInt32) &&& (1 : Int32)))), .val (.int w5), .val (.int (0 : Int32))] []))
      refine Run.go (fun _ k => XS.lloadN X6.here hx rfl (hb hby d1_71) rfl  k) ?_
      show Run p e below s 0 0 (Q_rm1_4 Z q1 q2 q3 h0 n0) (T6.setTop (mkF m 72 #[.val (.long q1), .second, .val (.long q2), .second, .val (.long q3), .second, .val (.int (4 : Int32)), .val (.int (1 : Int32)), .val (.int ((((q3.toUInt64 >>> ((48 : Int32) &&& 0x3f).toInt64.toUInt64).toInt64) &&& (3 : Int64)).toInt32)), .val (.int ((1 : Int32) + (((((q3.toUInt64 >>> ((48 : Int32) &&& 0x3f).toInt64.toUInt64).toInt64) &&& (3 : Int64)).toInt32) &&& (1 : Int32)))), .val (.int w5), .val (.int (0 : Int32))] [(.long q2)]))
      refine Run.go (fun _ k => XS.bipush X6.here hx rfl (hb hby d1_72) k) ?_
      show Run p e below s 0 0 (Q_rm1_4 Z q1 q2 q3 h0 n0) (T6.setTop (mkF m 74 #[.val (.long q1), .second, .val (.long q2), .second, .val (.long q3), .second, .val (.int (4 : Int32)), .val (.int (1 : Int32)), .val (.int ((((q3.toUInt64 >>> ((48 : Int32) &&& 0x3f).toInt64.toUInt64).toInt64) &&& (3 : Int64)).toInt32)), .val (.int ((1 : Int32) + (((((q3.toUInt64 >>> ((48 : Int32) &&& 0x3f).toInt64.toUInt64).toInt64) &&& (3 : Int64)).toInt32) &&& (1 : Int32)))), .val (.int w5), .val (.int (0 : Int32))] [(.int (8 : Int32)), (.long q2)]))
      refine Run.go (fun _ k => XS.iload X6.here hx rfl (hb hby d1_74) rfl  k) ?_
      show Run p e below s 0 0 (Q_rm1_4 Z q1 q2 q3 h0 n0) (T6.setTop (mkF m 76 #[.val (.long q1), .second, .val (.long q2), .second, .val (.long q3), .second, .val (.int (4 : Int32)), .val (.int (1 : Int32)), .val (.int ((((q3.toUInt64 >>> ((48 : Int32) &&& 0x3f).toInt64.toUInt64).toInt64) &&& (3 : Int64)).toInt32)), .val (.int ((1 : Int32) + (((((q3.toUInt64 >>> ((48 : Int32) &&& 0x3f).toInt64.toUInt64).toInt64) &&& (3 : Int64)).toInt32) &&& (1 : Int32)))), .val (.int w5), .val (.int (0 : Int32))] [(.int (4 : Int32)), (.int (8 : Int32)), (.long q2)]))
      refine Run.go (fun _ k => XS.imul X6.here hx rfl (hb hby d1_76) rfl k) ?_
      show Run p e below s 0 0 (Q_rm1_4 Z q1 q2 q3 h0 n0) (T6.setTop (mkF m 77 #[.val (.long q1), .second, .val (.long q2), .second, .val (.long q3), .second, .val (.int (4 : Int32)), .val (.int (1 : Int32)), .val (.int ((((q3.toUInt64 >>> ((48 : Int32) &&& 0x3f).toInt64.toUInt64).toInt64) &&& (3 : Int64)).toInt32)), .val (.int ((1 : Int32) + (((((q3.toUInt64 >>> ((48 : Int32) &&& 0x3f).toInt64.toUInt64).toInt64) &&& (3 : Int64)).toInt32) &&& (1 : Int32)))), .val (.int w5), .val (.int (0 : Int32))] [(.int (32 : Int32)), (.long q2)]))
      refine Run.go (fun _ k => XS.lushr X6.here hx rfl (hb hby d1_77) rfl k) ?_
      show Run p e below s 0 0 (Q_rm1_4 Z q1 q2 q3 h0 n0) (T6.setTop (mkF m 78 #[.val (.long q1), .second, .val (.long q2), .second, .val (.long q3), .second, .val (.int (4 : Int32)), .val (.int (1 : Int32)), .val (.int ((((q3.toUInt64 >>> ((48 : Int32) &&& 0x3f).toInt64.toUInt64).toInt64) &&& (3 : Int64)).toInt32)), .val (.int ((1 : Int32) + (((((q3.toUInt64 >>> ((48 : Int32) &&& 0x3f).toInt64.toUInt64).toInt64) &&& (3 : Int64)).toInt32) &&& (1 : Int32)))), .val (.int w5), .val (.int (0 : Int32))] [(.long ((q2.toUInt64 >>> ((32 : Int32) &&& 0x3f).toInt64.toUInt64).toInt64))]))
      refine Run.go (fun _ k => X6.ldc2Long hx hown (mvT hZ (hw _ (List.mem_of_getElem? (i := 5) rfl))) (g := (mkF m 78 #[.val (.long q1), .second, .val (.long q2), .second, .val (.long q3), .second, .val (.int (4 : Int32)), .val (.int (1 : Int32)), .val (.int ((((q3.toUInt64 >>> ((48 : Int32) &&& 0x3f).toInt64.toUInt64).toInt64) &&& (3 : Int64)).toInt32)), .val (.int ((1 : Int32) + (((((q3.toUInt64 >>> ((48 : Int32) &&& 0x3f).toInt64.toUInt64).toInt64) &&& (3 : Int64)).toInt32) &&& (1 : Int32)))), .val (.int w5), .val (.int (0 : Int32))] [(.long ((q2.toUInt64 >>> ((32 : Int32) &&& 0x3f).toInt64.toUInt64).toInt64))])) rfl (hb hby d1_78) _ k) ?_
      show Run p e below s 0 0 (Q_rm1_4 Z q1 q2 q3 h0 n0) (T6.setTop (mkF m 81 #[.val (.long q1), .second, .val (.long q2), .second, .val (.long q3), .second, .val (.int (4 : Int32)), .val (.int (1 : Int32)), .val (.int ((((q3.toUInt64 >>> ((48 : Int32) &&& 0x3f).toInt64.toUInt64).toInt64) &&& (3 : Int64)).toInt32)), .val (.int ((1 : Int32) + (((((q3.toUInt64 >>> ((48 : Int32) &&& 0x3f).toInt64.toUInt64).toInt64) &&& (3 : Int64)).toInt32) &&& (1 : Int32)))), .val (.int w5), .val (.int (0 : Int32))] [(.long (255 : Int64)), (.long ((q2.toUInt64 >>> ((32 : Int32) &&& 0x3f).toInt64.toUInt64).toInt64))]))
      refine Run.go (fun _ k => XS.land X6.here hx rfl (hb hby d1_81) rfl k) ?_
      show Run p e below s 0 0 (Q_rm1_4 Z q1 q2 q3 h0 n0) (T6.setTop (mkF m 82 #[.val (.long q1), .second, .val (.long q2), .second, .val (.long q3), .second, .val (.int (4 : Int32)), .val (.int (1 : Int32)), .val (.int ((((q3.toUInt64 >>> ((48 : Int32) &&& 0x3f).toInt64.toUInt64).toInt64) &&& (3 : Int64)).toInt32)), .val (.int ((1 : Int32) + (((((q3.toUInt64 >>> ((48 : Int32) &&& 0x3f).toInt64.toUInt64).toInt64) &&& (3 : Int64)).toInt32) &&& (1 : Int32)))), .val (.int w5), .val (.int (0 : Int32))] [(.long (((q2.toUInt64 >>> ((32 : Int32) &&& 0x3f).toInt64.toUInt64).toInt64) &&& (255 : Int64)))]))
      refine Run.go (fun _ k => XS.l2i X6.here hx rfl (hb hby d1_82) rfl k) ?_
      show Run p e below s 0 0 (Q_rm1_4 Z q1 q2 q3 h0 n0) (T6.setTop (mkF m 83 #[.val (.long q1), .second, .val (.long q2), .second, .val (.long q3), .second, .val (.int (4 : Int32)), .val (.int (1 : Int32)), .val (.int ((((q3.toUInt64 >>> ((48 : Int32) &&& 0x3f).toInt64.toUInt64).toInt64) &&& (3 : Int64)).toInt32)), .val (.int ((1 : Int32) + (((((q3.toUInt64 >>> ((48 : Int32) &&& 0x3f).toInt64.toUInt64).toInt64) &&& (3 : Int64)).toInt32) &&& (1 : Int32)))), .val (.int w5), .val (.int (0 : Int32))] [(.int ((((q2.toUInt64 >>> ((32 : Int32) &&& 0x3f).toInt64.toUInt64).toInt64) &&& (255 : Int64)).toInt32))]))
      refine Run.go (fun _ k => XS.istore X6.here hx rfl (hb hby d1_83) rfl (l' := #[.val (.long q1), .second, .val (.long q2), .second, .val (.long q3), .second, .val (.int (4 : Int32)), .val (.int (1 : Int32)), .val (.int ((((q3.toUInt64 >>> ((48 : Int32) &&& 0x3f).toInt64.toUInt64).toInt64) &&& (3 : Int64)).toInt32)), .val (.int ((1 : Int32) + (((((q3.toUInt64 >>> ((48 : Int32) &&& 0x3f).toInt64.toUInt64).toInt64) &&& (3 : Int64)).toInt32) &&& (1 : Int32)))), .val (.int w5), .val (.int ((((q2.toUInt64 >>> ((32 : Int32) &&& 0x3f).toInt64.toUInt64).toInt64) &&& (255 : Int64)).toInt32))]) rfl k) ?_
      show Run p e below s 0 0 (Q_rm1_4 Z q1 q2 q3 h0 n0) (T6.setTop (mkF m 85 #[.val (.long q1), .second, .val (.long q2), .second, .val (.long q3), .second, .val (.int (4 : Int32)), .val (.int (1 : Int32)), .val (.int ((((q3.toUInt64 >>> ((48 : Int32) &&& 0x3f).toInt64.toUInt64).toInt64) &&& (3 : Int64)).toInt32)), .val (.int ((1 : Int32) + (((((q3.toUInt64 >>> ((48 : Int32) &&& 0x3f).toInt64.toUInt64).toInt64) &&& (3 : Int64)).toInt32) &&& (1 : Int32)))), .val (.int w5), .val (.int ((((q2.toUInt64 >>> ((32 : Int32) &&& 0x3f).toInt64.toUInt64).toInt64) &&& (255 : Int64)).toInt32))] []))
      exact J7 _ (by rw [if_neg hc10]) _ _ X6 e6 N6
  by_cases hc11 : (((1 : Int32) + (((((q3.toUInt64 >>> ((48 : Int32) &&& 0x3f).toInt64.toUInt64).toInt64) &&& (3 : Int64)).toInt32) &&& (1 : Int32))) < (1 : Int32))
  · refine Run.go (fun _ k => XS.icmpYes X0.here hx rfl (pc0 := 48) (pc' := 65) rfl (hb hby d1_48) rfl (tlt hc11).1 (by decide) (by decide) k) ?_
    show Run p e below s 0 0 (Q_rm1_4 Z q1 q2 q3 h0 n0) (s₁.setTop (mkF m 65 #[.val (.long q1), .second, .val (.long q2), .second, .val (.long q3), .second, .val (.int (4 : Int32)), .val (.int (1 : Int32)), .val (.int ((((q3.toUInt64 >>> ((48 : Int32) &&& 0x3f).toInt64.toUInt64).toInt64) &&& (3 : Int64)).toInt32)), .val (.int ((1 : Int32) + (((((q3.toUInt64 >>> ((48 : Int32) &&& 0x3f).toInt64.toUInt64).toInt64) &&& (3 : Int64)).toInt32) &&& (1 : Int32)))), .val (.int (0 : Int32)), .val (.int (0 : Int32))] []))
    exact J4 _ (by rw [if_pos hc11]) _ _ X0 e0 N0
  · refine Run.go (fun _ k => XS.icmpNo X0.here hx rfl (hb hby d1_48) rfl (flt hc11).1 k) ?_
    show Run p e below s 0 0 (Q_rm1_4 Z q1 q2 q3 h0 n0) (s₁.setTop (mkF m 51 #[.val (.long q1), .second, .val (.long q2), .second, .val (.long q3), .second, .val (.int (4 : Int32)), .val (.int (1 : Int32)), .val (.int ((((q3.toUInt64 >>> ((48 : Int32) &&& 0x3f).toInt64.toUInt64).toInt64) &&& (3 : Int64)).toInt32)), .val (.int ((1 : Int32) + (((((q3.toUInt64 >>> ((48 : Int32) &&& 0x3f).toInt64.toUInt64).toInt64) &&& (3 : Int64)).toInt32) &&& (1 : Int32)))), .val (.int (0 : Int32)), .val (.int (0 : Int32))] []))
    refine Run.go (fun _ k => XS.lloadN X0.here hx rfl (hb hby d1_51) rfl  k) ?_
    show Run p e below s 0 0 (Q_rm1_4 Z q1 q2 q3 h0 n0) (s₁.setTop (mkF m 52 #[.val (.long q1), .second, .val (.long q2), .second, .val (.long q3), .second, .val (.int (4 : Int32)), .val (.int (1 : Int32)), .val (.int ((((q3.toUInt64 >>> ((48 : Int32) &&& 0x3f).toInt64.toUInt64).toInt64) &&& (3 : Int64)).toInt32)), .val (.int ((1 : Int32) + (((((q3.toUInt64 >>> ((48 : Int32) &&& 0x3f).toInt64.toUInt64).toInt64) &&& (3 : Int64)).toInt32) &&& (1 : Int32)))), .val (.int (0 : Int32)), .val (.int (0 : Int32))] [(.long q1)]))
    refine Run.go (fun _ k => XS.bipush X0.here hx rfl (hb hby d1_52) k) ?_
    show Run p e below s 0 0 (Q_rm1_4 Z q1 q2 q3 h0 n0) (s₁.setTop (mkF m 54 #[.val (.long q1), .second, .val (.long q2), .second, .val (.long q3), .second, .val (.int (4 : Int32)), .val (.int (1 : Int32)), .val (.int ((((q3.toUInt64 >>> ((48 : Int32) &&& 0x3f).toInt64.toUInt64).toInt64) &&& (3 : Int64)).toInt32)), .val (.int ((1 : Int32) + (((((q3.toUInt64 >>> ((48 : Int32) &&& 0x3f).toInt64.toUInt64).toInt64) &&& (3 : Int64)).toInt32) &&& (1 : Int32)))), .val (.int (0 : Int32)), .val (.int (0 : Int32))] [(.int (8 : Int32)), (.long q1)]))
    refine Run.go (fun _ k => XS.iload X0.here hx rfl (hb hby d1_54) rfl  k) ?_
    show Run p e below s 0 0 (Q_rm1_4 Z q1 q2 q3 h0 n0) (s₁.setTop (mkF m 56 #[.val (.long q1), .second, .val (.long q2), .second, .val (.long q3), .second, .val (.int (4 : Int32)), .val (.int (1 : Int32)), .val (.int ((((q3.toUInt64 >>> ((48 : Int32) &&& 0x3f).toInt64.toUInt64).toInt64) &&& (3 : Int64)).toInt32)), .val (.int ((1 : Int32) + (((((q3.toUInt64 >>> ((48 : Int32) &&& 0x3f).toInt64.toUInt64).toInt64) &&& (3 : Int64)).toInt32) &&& (1 : Int32)))), .val (.int (0 : Int32)), .val (.int (0 : Int32))] [(.int (4 : Int32)), (.int (8 : Int32)), (.long q1)]))
    refine Run.go (fun _ k => XS.imul X0.here hx rfl (hb hby d1_56) rfl k) ?_
    show Run p e below s 0 0 (Q_rm1_4 Z q1 q2 q3 h0 n0) (s₁.setTop (mkF m 57 #[.val (.long q1), .second, .val (.long q2), .second, .val (.long q3), .second, .val (.int (4 : Int32)), .val (.int (1 : Int32)), .val (.int ((((q3.toUInt64 >>> ((48 : Int32) &&& 0x3f).toInt64.toUInt64).toInt64) &&& (3 : Int64)).toInt32)), .val (.int ((1 : Int32) + (((((q3.toUInt64 >>> ((48 : Int32) &&& 0x3f).toInt64.toUInt64).toInt64) &&& (3 : Int64)).toInt32) &&& (1 : Int32)))), .val (.int (0 : Int32)), .val (.int (0 : Int32))] [(.int (32 : Int32)), (.long q1)]))
    refine Run.go (fun _ k => XS.lushr X0.here hx rfl (hb hby d1_57) rfl k) ?_
    show Run p e below s 0 0 (Q_rm1_4 Z q1 q2 q3 h0 n0) (s₁.setTop (mkF m 58 #[.val (.long q1), .second, .val (.long q2), .second, .val (.long q3), .second, .val (.int (4 : Int32)), .val (.int (1 : Int32)), .val (.int ((((q3.toUInt64 >>> ((48 : Int32) &&& 0x3f).toInt64.toUInt64).toInt64) &&& (3 : Int64)).toInt32)), .val (.int ((1 : Int32) + (((((q3.toUInt64 >>> ((48 : Int32) &&& 0x3f).toInt64.toUInt64).toInt64) &&& (3 : Int64)).toInt32) &&& (1 : Int32)))), .val (.int (0 : Int32)), .val (.int (0 : Int32))] [(.long ((q1.toUInt64 >>> ((32 : Int32) &&& 0x3f).toInt64.toUInt64).toInt64))]))
    refine Run.go (fun _ k => X0.ldc2Long hx hown (mvT hZ (hw _ (List.mem_of_getElem? (i := 5) rfl))) (g := (mkF m 58 #[.val (.long q1), .second, .val (.long q2), .second, .val (.long q3), .second, .val (.int (4 : Int32)), .val (.int (1 : Int32)), .val (.int ((((q3.toUInt64 >>> ((48 : Int32) &&& 0x3f).toInt64.toUInt64).toInt64) &&& (3 : Int64)).toInt32)), .val (.int ((1 : Int32) + (((((q3.toUInt64 >>> ((48 : Int32) &&& 0x3f).toInt64.toUInt64).toInt64) &&& (3 : Int64)).toInt32) &&& (1 : Int32)))), .val (.int (0 : Int32)), .val (.int (0 : Int32))] [(.long ((q1.toUInt64 >>> ((32 : Int32) &&& 0x3f).toInt64.toUInt64).toInt64))])) rfl (hb hby d1_58) _ k) ?_
    show Run p e below s 0 0 (Q_rm1_4 Z q1 q2 q3 h0 n0) (s₁.setTop (mkF m 61 #[.val (.long q1), .second, .val (.long q2), .second, .val (.long q3), .second, .val (.int (4 : Int32)), .val (.int (1 : Int32)), .val (.int ((((q3.toUInt64 >>> ((48 : Int32) &&& 0x3f).toInt64.toUInt64).toInt64) &&& (3 : Int64)).toInt32)), .val (.int ((1 : Int32) + (((((q3.toUInt64 >>> ((48 : Int32) &&& 0x3f).toInt64.toUInt64).toInt64) &&& (3 : Int64)).toInt32) &&& (1 : Int32)))), .val (.int (0 : Int32)), .val (.int (0 : Int32))] [(.long (255 : Int64)), (.long ((q1.toUInt64 >>> ((32 : Int32) &&& 0x3f).toInt64.toUInt64).toInt64))]))
    refine Run.go (fun _ k => XS.land X0.here hx rfl (hb hby d1_61) rfl k) ?_
    show Run p e below s 0 0 (Q_rm1_4 Z q1 q2 q3 h0 n0) (s₁.setTop (mkF m 62 #[.val (.long q1), .second, .val (.long q2), .second, .val (.long q3), .second, .val (.int (4 : Int32)), .val (.int (1 : Int32)), .val (.int ((((q3.toUInt64 >>> ((48 : Int32) &&& 0x3f).toInt64.toUInt64).toInt64) &&& (3 : Int64)).toInt32)), .val (.int ((1 : Int32) + (((((q3.toUInt64 >>> ((48 : Int32) &&& 0x3f).toInt64.toUInt64).toInt64) &&& (3 : Int64)).toInt32) &&& (1 : Int32)))), .val (.int (0 : Int32)), .val (.int (0 : Int32))] [(.long (((q1.toUInt64 >>> ((32 : Int32) &&& 0x3f).toInt64.toUInt64).toInt64) &&& (255 : Int64)))]))
    refine Run.go (fun _ k => XS.l2i X0.here hx rfl (hb hby d1_62) rfl k) ?_
    show Run p e below s 0 0 (Q_rm1_4 Z q1 q2 q3 h0 n0) (s₁.setTop (mkF m 63 #[.val (.long q1), .second, .val (.long q2), .second, .val (.long q3), .second, .val (.int (4 : Int32)), .val (.int (1 : Int32)), .val (.int ((((q3.toUInt64 >>> ((48 : Int32) &&& 0x3f).toInt64.toUInt64).toInt64) &&& (3 : Int64)).toInt32)), .val (.int ((1 : Int32) + (((((q3.toUInt64 >>> ((48 : Int32) &&& 0x3f).toInt64.toUInt64).toInt64) &&& (3 : Int64)).toInt32) &&& (1 : Int32)))), .val (.int (0 : Int32)), .val (.int (0 : Int32))] [(.int ((((q1.toUInt64 >>> ((32 : Int32) &&& 0x3f).toInt64.toUInt64).toInt64) &&& (255 : Int64)).toInt32))]))
    refine Run.go (fun _ k => XS.istore X0.here hx rfl (hb hby d1_63) rfl (l' := #[.val (.long q1), .second, .val (.long q2), .second, .val (.long q3), .second, .val (.int (4 : Int32)), .val (.int (1 : Int32)), .val (.int ((((q3.toUInt64 >>> ((48 : Int32) &&& 0x3f).toInt64.toUInt64).toInt64) &&& (3 : Int64)).toInt32)), .val (.int ((1 : Int32) + (((((q3.toUInt64 >>> ((48 : Int32) &&& 0x3f).toInt64.toUInt64).toInt64) &&& (3 : Int64)).toInt32) &&& (1 : Int32)))), .val (.int ((((q1.toUInt64 >>> ((32 : Int32) &&& 0x3f).toInt64.toUInt64).toInt64) &&& (255 : Int64)).toInt32)), .val (.int (0 : Int32))]) rfl k) ?_
    show Run p e below s 0 0 (Q_rm1_4 Z q1 q2 q3 h0 n0) (s₁.setTop (mkF m 65 #[.val (.long q1), .second, .val (.long q2), .second, .val (.long q3), .second, .val (.int (4 : Int32)), .val (.int (1 : Int32)), .val (.int ((((q3.toUInt64 >>> ((48 : Int32) &&& 0x3f).toInt64.toUInt64).toInt64) &&& (3 : Int64)).toInt32)), .val (.int ((1 : Int32) + (((((q3.toUInt64 >>> ((48 : Int32) &&& 0x3f).toInt64.toUInt64).toInt64) &&& (3 : Int64)).toInt32) &&& (1 : Int32)))), .val (.int ((((q1.toUInt64 >>> ((32 : Int32) &&& 0x3f).toInt64.toUInt64).toInt64) &&& (255 : Int64)).toInt32)), .val (.int (0 : Int32))] []))
    exact J4 _ (by rw [if_neg hc11]) _ _ X0 e0 N0
theorem own_notinst {Z : State} {a0 : Array Value} {C O K : String} {n : Nat} (w1 : (Jvm.Cond.superclass C O).before a0 Z = true) (w3 : (Jvm.Cond.noSuperclass O).before a0 Z = true) (wi : (Jvm.Cond.instantiable K n).before a0 Z = true) (h1 : C ≠ K) (h3 : O ≠ K) :
    ∃ c t, Z.vm.findClass C = some c ∧ Z.vm.findClass K = some t ∧ Z.vm.assignable c t = false := by
  obtain ⟨t, kt, g0, g2, g5, g7, -⟩ := Cond.instantiable_spec wi
  have r : NS Z O K := by
    obtain ⟨c, k, q1, q2, q3, -, -⟩ := Cond.noSuperclass_spec w3
    have ne := ids_ne q1 g0 h3
    refine ⟨c, t, q1, g0, fun fuel => ?_⟩
    cases fuel with
    | zero => rfl
    | succ f => simp [Vm.isSubclassAux, ne, q2, q3]
  obtain ⟨c, t', h0, g0', n3⟩ := NS.step w1 r h1
  cases g0.symm.trans g0'
  obtain ⟨p, k, kp, q1, q2, q3, q4, q5, -, q7⟩ := Cond.superclass_spec h0 w1
  have ne := ids_ne h0 g0 h1
  refine ⟨c, t, h0, g0, ?_⟩
  show Z.vm.assignableAux (255 + 1) c t = false
  have g7' : kt.isInterface = false := by cases hk : kt.isInterface <;> simp_all
  simp [Vm.assignableAux, ne, q2, g2, q5, g5, g7', Vm.isSubclass, n3]
def Q_rm16i (Z : State) (a1 : Addr) (a2 : Addr) (h0 : Heap) (n0 : Nat) (v : Option Value) (h : Heap) (L : List Loc) : Prop := v = some (.int (0 : Int32)) ∧ Fr n0 L ∧ h = h0
theorem ef_rm16i (m : MethodId) (x0 : Addr) (x1 : Addr) : entryFrame m #[(.ref x0), (.ref x1)] 3 = mkF m 0 #[.val (.ref x0), .val (.ref x1), .unset] [] := by first | (simp [entryFrame, mkF, argsToLocals, Value.category]; done) | rfl
set_option maxRecDepth 65536 in
set_option maxHeartbeats 40000000 in
theorem rm16i (l : Launch) (Z : State) (a0 : Array Value) (hw : ∀ d ∈ tables_1, d.before a0 Z = true) (ws : List Jvm.Cond) (a1 : Addr) (a2 : Addr) (h0 : Heap) (n0 : Nat) (Z0 : n0 ≤ h0.size) (E_a2 : Exa Z h0 a2 "java/lang/String") :
    MetFree l (⟨"com/example/subjectory/subjectory/heading/ClassLink", "equals", "(Ljava/lang/Object;)Z"⟩ : MethodName) (head1 (Jvm.Cond.code (⟨"com/example/subjectory/subjectory/heading/ClassLink", "equals", "(Ljava/lang/Object;)Z"⟩ : MethodName) prog_4_method_8_code 3 (some .boolean) :: ws) ({ frames := 0, cells := 0, slots := 0, locals := 0 } : Room)) (fun a U => a = #[(.ref a1), (.ref a2)] ∧ Z.Warmed39 U.vm ∧ U.heap = h0) (fun _ _ _ _ _ => True) (fun _ U o U' => ∃ v L, o = .returned v ∧ Q_rm16i Z a1 a2 h0 n0 v U'.heap L ∧ FrameEnd U o U' L ({ frames := 0, cells := 0, slots := 0, locals := 0 } : Room).cells ({ frames := 0, cells := 0, slots := 0, locals := 0 } : Room).slots) := by
  refine MetFree.of_bodySF (plainFor_of_name pn_4) hisR ?_
  intro p e s m args below meth c s₁ Bd hml0 hP hK
  obtain ⟨rfl, hZ, hh⟩ := hP
  have hx := Bd.exec
  have hby := Bd.bytes
  have hml : c.maxLocals = 3 := hml0
  have hown : s.vm.findClass "com/example/subjectory/subjectory/heading/ClassLink" = some m.cls := findClass_of_methodNamed Bd.named
  have hnm := (name_of_methodNamed Bd.named Bd.method).1
  have X0 : Stand p l e ({ frames := 0, cells := 0, slots := 0, locals := 0 } : Room) s m #[(.ref a1), (.ref a2)] below meth c s₁ [] 0 0 := Stand.of_body Bd
  have e0 : s₁.heap = h0 := by rw [← hh, Bd.state]; rfl
  have N0 := Fr.nil n0
  show Run p e below s 0 0 (Q_rm16i Z a1 a2 h0 n0) (s₁.setTop (entryFrame m #[(.ref a1), (.ref a2)] 3))
  refine Run.go (fun _ k => castTop (ef_rm16i m a1 a2) k) ?_
  show Run p e below s 0 0 (Q_rm16i Z a1 a2 h0 n0) (s₁.setTop (mkF m 0 #[.val (.ref a1), .val (.ref a2), .unset] []))
  refine Run.go (fun _ k => XS.aloadN X0.here hx rfl (hb hby d16_0) rfl rfl k) ?_
  show Run p e below s 0 0 (Q_rm16i Z a1 a2 h0 n0) (s₁.setTop (mkF m 1 #[.val (.ref a1), .val (.ref a2), .unset] [(.ref a2)]))
  obtain ⟨T3, X3, e3, st3⟩ := instNo X0 hx hZ hown (hw _ (List.mem_of_getElem? (i := 93) rfl)) e0 E_a2 (own_notinst (hw _ (List.mem_of_getElem? (i := 103) rfl)) (hw _ (List.mem_of_getElem? (i := 104) rfl)) (hw _ (List.mem_of_getElem? (i := 7) rfl)) (by decide) (by decide)) (g := (mkF m 1 #[.val (.ref a1), .val (.ref a2), .unset] [(.ref a2)])) rfl rfl (hb hby d16_1)
  refine Run.go st3 ?_
  show Run p e below s 0 0 (Q_rm16i Z a1 a2 h0 n0) (T3.setTop (mkF m 4 #[.val (.ref a1), .val (.ref a2), .unset] [(.int (0 : Int32))]))
  refine Run.go (fun _ k => XS.ifYes X3.here hx rfl (pc0 := 4) (pc' := 86) rfl (hb hby d16_4) rfl ((if0 _ _).trans (teq (rfl : (0 : Int32) = (0 : Int32))).1) (by decide) (by decide) k) ?_
  show Run p e below s 0 0 (Q_rm16i Z a1 a2 h0 n0) (T3.setTop (mkF m 86 #[.val (.ref a1), .val (.ref a2), .unset] []))
  refine Run.go (fun _ k => XS.iconst X3.here hx rfl (hb hby d16_86) k) ?_
  show Run p e below s 0 0 (Q_rm16i Z a1 a2 h0 n0) (T3.setTop (mkF m 87 #[.val (.ref a1), .val (.ref a2), .unset] [(.int (0 : Int32))]))
  refine Run.retN (y := (0 : Int32)) X3 hx (t := .boolean) Bd.returns (by simp) rfl Bd.notSynchronized (hb hby d16_87) (by decide) (by decide) ?_
  show Q_rm16i Z a1 a2 h0 n0 _ T3.heap _
  exact ⟨rfl, N0, e3⟩
def Good (p : Int32) : Prop := ∃ x y z : Int, p.toInt = x * 65536 + y * 256 + z ∧ 0 ≤ x ∧ x ≤ 2 ∧ 0 ≤ y ∧ y < 256 ∧ 0 ≤ z ∧ z < 256 ∧ (x < 1 → y = 0) ∧ (x < 2 → z = 0)
theorem own_parts {p : Int32} {x y z : Int} (h : p.toInt = x * 65536 + y * 256 + z) (h1 : 0 ≤ x) (h2 : x ≤ 2) (h3 : 0 ≤ y) (h4 : y < 256) (h5 : 0 ≤ z) (h6 : z < 256) : (own_ln p).toInt = x ∧ (own_c1 p).toInt = y ∧ (own_c2 p).toInt = z := by
  have a := c_iushr p 16 16 (by decide) (by decide)
  have b := c_iushr p 8 8 (by decide) (by decide)
  have c := c_mask ((p.toUInt32 >>> ((8 : Int32) &&& 31).toUInt32).toInt32) 255 8 (by decide) (by decide)
  have d := c_mask p 255 8 (by decide) (by decide)
  rw [b] at c
  unfold own_ln own_c1 own_c2
  rw [a, c, d, h]
  simp only [show ((2 ^ 16 : Nat) : Int) = 65536 from rfl, show ((2 ^ 8 : Nat) : Int) = 256 from rfl]
  omega
theorem own_inj {p q : Int32} (hp : Good p) (hq : Good q) : own_cs p = own_cs q ↔ p = q := by
  constructor
  · obtain ⟨x, y, z, e, a1, a2, a3, a4, a5, a6, a7, a8⟩ := hp
    obtain ⟨x', y', z', e', b1, b2, b3, b4, b5, b6, b7, b8⟩ := hq
    obtain ⟨p1, p2, p3⟩ := own_parts e a1 a2 a3 a4 a5 a6
    obtain ⟨q1, q2, q3⟩ := own_parts e' b1 b2 b3 b4 b5 b6
    have e0 : (0 : Int32).toInt = 0 := rfl
    have e1 : (1 : Int32).toInt = 1 := rfl
    intro h
    apply Int32.toInt_inj.mp
    unfold own_cs at h
    by_cases c0 : own_ln p = 0
    · rw [if_pos c0] at h
      by_cases d0 : own_ln q = 0
      · rw [c0] at p1; rw [d0] at q1; omega
      · rw [if_neg d0] at h
        by_cases d1 : own_ln q = 1
        · rw [if_pos d1] at h; cases h
        · rw [if_neg d1] at h; cases h
    · rw [if_neg c0] at h
      have c0' : ¬ x = 0 := fun r => c0 (Int32.toInt_inj.mp (by omega))
      by_cases c1 : own_ln p = 1
      · rw [if_pos c1] at h
        by_cases d0 : own_ln q = 0
        · rw [if_pos d0] at h; cases h
        · rw [if_neg d0] at h
          by_cases d1 : own_ln q = 1
          · rw [if_pos d1] at h
            injection h with h _
            have := congrArg Int32.toInt h
            rw [c1] at p1; rw [d1] at q1; omega
          · rw [if_neg d1] at h; injection h with _ h; cases h
      · rw [if_neg c1] at h
        have c1' : ¬ x = 1 := fun r => c1 (Int32.toInt_inj.mp (by omega))
        by_cases d0 : own_ln q = 0
        · rw [if_pos d0] at h; cases h
        · rw [if_neg d0] at h
          have d0' : ¬ x' = 0 := fun r => d0 (Int32.toInt_inj.mp (by omega))
          by_cases d1 : own_ln q = 1
          · rw [if_pos d1] at h; injection h with _ h; cases h
          · rw [if_neg d1] at h
            have d1' : ¬ x' = 1 := fun r => d1 (Int32.toInt_inj.mp (by omega))
            injection h with h h2
            injection h2 with h2 _
            have r1 := congrArg Int32.toInt h
            have r2 := congrArg Int32.toInt h2
            omega
  · rintro rfl; rfl
def own_sp (L A B : Int32) : Int32 := ((L <<< ((16 : Int32) &&& 31)) ||| ((if L < (1 : Int32) then (0 : Int32) else A) <<< ((8 : Int32) &&& 31))) ||| (if L < (2 : Int32) then (0 : Int32) else B)
theorem own_spG (L A B : Int32) (l0 : 0 ≤ L.toInt) (l2 : L.toInt ≤ 2) (a0 : 0 ≤ A.toInt) (a1 : A.toInt < 256) (b0 : 0 ≤ B.toInt) (b1 : B.toInt < 256) : Good (own_sp L A B) ∧ (1 ≤ L.toInt → ¬ (own_cs (own_sp L A B)).length = 0) := by
  have e0 : (0 : Int32).toInt = 0 := rfl
  have e1 : (1 : Int32).toInt = 1 := rfl
  have e2 : (2 : Int32).toInt = 2 := rfl
  obtain ⟨y, hy⟩ : ∃ y : Int32, y = if L < (1 : Int32) then (0 : Int32) else A := ⟨_, rfl⟩
  obtain ⟨z, hz⟩ : ∃ z : Int32, z = if L < (2 : Int32) then (0 : Int32) else B := ⟨_, rfl⟩
  have y1 : 0 ≤ y.toInt ∧ y.toInt < 256 ∧ (L.toInt < 1 → y.toInt = 0) := by
    rw [hy]; split
    · exact ⟨by omega, by omega, fun _ => rfl⟩
    · rename_i q; rw [Int32.lt_iff_toInt_lt] at q; exact ⟨a0, a1, fun r => by omega⟩
  have z1 : 0 ≤ z.toInt ∧ z.toInt < 256 ∧ (L.toInt < 2 → z.toInt = 0) := by
    rw [hz]; split
    · exact ⟨by omega, by omega, fun _ => rfl⟩
    · rename_i q; rw [Int32.lt_iff_toInt_lt] at q; exact ⟨b0, b1, fun r => by omega⟩
  have s1 := c_ishl L 16 16 (by decide)
  have s2 := c_ishl y 8 8 (by decide)
  have r1 := rng32 (L <<< ((16 : Int32) &&& 31))
  have r2 := rng32 (y <<< ((8 : Int32) &&& 31))
  simp only [show ((2 ^ 16 : Nat) : Int) = 65536 from rfl, show ((2 ^ 8 : Nat) : Int) = 256 from rfl] at s1 s2
  have t1 : (L <<< ((16 : Int32) &&& 31)).toInt = L.toInt * 65536 := by omega
  have t2 : (y <<< ((8 : Int32) &&& 31)).toInt = y.toInt * 256 := by omega
  have o1 := c_or (L <<< ((16 : Int32) &&& 31)) (y <<< ((8 : Int32) &&& 31)) 16 (by decide) 65536 rfl (by omega) (by omega) (by omega)
  have n1 := (c_orS (L <<< ((16 : Int32) &&& 31)) (y <<< ((8 : Int32) &&& 31))).1 (by omega) (by omega)
  have r3 := rng32 ((L <<< ((16 : Int32) &&& 31)) ||| (y <<< ((8 : Int32) &&& 31)))
  have t3 : ((L <<< ((16 : Int32) &&& 31)) ||| (y <<< ((8 : Int32) &&& 31))).toInt = L.toInt * 65536 + y.toInt * 256 := by omega
  have o2 := c_or ((L <<< ((16 : Int32) &&& 31)) ||| (y <<< ((8 : Int32) &&& 31))) z 8 (by decide) 256 rfl (by omega) (by omega) (by omega)
  have n2 := (c_orS ((L <<< ((16 : Int32) &&& 31)) ||| (y <<< ((8 : Int32) &&& 31))) z).1 (by omega) (by omega)
  have r4 := rng32 (((L <<< ((16 : Int32) &&& 31)) ||| (y <<< ((8 : Int32) &&& 31))) ||| z)
  have t4 : (own_sp L A B).toInt = L.toInt * 65536 + y.toInt * 256 + z.toInt := by unfold own_sp; rw [← hy, ← hz]; omega
  refine ⟨⟨L.toInt, y.toInt, z.toInt, t4, l0, l2, y1.1, y1.2.1, z1.1, z1.2.1, y1.2.2, z1.2.2⟩, fun h => ?_⟩
  have p := (own_parts t4 l0 l2 y1.1 y1.2.1 z1.1 z1.2.1).1
  unfold own_cs
  rw [if_neg (fun q => by rw [q] at p; omega)]
  split <;> simp
theorem own_byteJ (q : Int64) : 0 ≤ ((q &&& (255 : Int64)).toInt32).toInt ∧ ((q &&& (255 : Int64)).toInt32).toInt < 256 := by
  have m := c_maskL q 255 8 (by decide) (by decide)
  have l := c_l2i (q &&& (255 : Int64))
  have := rng32 ((q &&& (255 : Int64)).toInt32)
  simp only [show ((2 ^ 8 : Nat) : Int) = 256 from rfl] at m
  omega
theorem own_l3 (q : Int64) : 0 ≤ (((q &&& (3 : Int64)).toInt32) % (3 : Int32)).toInt ∧ (((q &&& (3 : Int64)).toInt32) % (3 : Int32)).toInt ≤ 2 := by
  have m := c_maskL q 3 2 (by decide) (by decide)
  have l := c_l2i (q &&& (3 : Int64))
  have := rng32 ((q &&& (3 : Int64)).toInt32)
  simp only [show ((2 ^ 2 : Nat) : Int) = 4 from rfl] at m
  have r := (c_irem ((q &&& (3 : Int64)).toInt32) 3 3 rfl).1 (by omega)
  omega
theorem own_l1 (q : Int32) : 1 ≤ ((1 : Int32) + (q &&& (1 : Int32))).toInt ∧ ((1 : Int32) + (q &&& (1 : Int32))).toInt ≤ 2 := by
  have h := c_and q 1 (by decide)
  have e1 : (1 : Int32).toInt = 1 := rfl
  have a := c_iadd 1 (q &&& (1 : Int32))
  have := rng32 ((1 : Int32) + (q &&& (1 : Int32)))
  omega
theorem own_if0 (L A B : Int32) : (let w5 : Int32 := (if L < (1 : Int32) then (0 : Int32) else A); let w8 : Int32 := (if L < (2 : Int32) then (0 : Int32) else B); (((L <<< ((16 : Int32) &&& 31)) ||| (w5 <<< ((8 : Int32) &&& 31))) ||| w8)) = own_sp L A B := rfl
theorem own_G0 (q1 q2 q3 : Int64) : Good (F_rm1_0 q1 q2 q3) := by
  have e : F_rm1_0 q1 q2 q3 = own_sp (((((q3.toUInt64 >>> ((40 : Int32) &&& 0x3f).toInt64.toUInt64).toInt64) &&& (3 : Int64)).toInt32) % (3 : Int32)) ((((q1.toUInt64 >>> ((0 : Int32) &&& 0x3f).toInt64.toUInt64).toInt64) &&& (255 : Int64)).toInt32) ((((q2.toUInt64 >>> ((0 : Int32) &&& 0x3f).toInt64.toUInt64).toInt64) &&& (255 : Int64)).toInt32) := rfl
  rw [e]
  have r := own_spG (((((q3.toUInt64 >>> ((40 : Int32) &&& 0x3f).toInt64.toUInt64).toInt64) &&& (3 : Int64)).toInt32) % (3 : Int32)) ((((q1.toUInt64 >>> ((0 : Int32) &&& 0x3f).toInt64.toUInt64).toInt64) &&& (255 : Int64)).toInt32) ((((q2.toUInt64 >>> ((0 : Int32) &&& 0x3f).toInt64.toUInt64).toInt64) &&& (255 : Int64)).toInt32) (own_l3 _).1 (own_l3 _).2 (own_byteJ _).1 (own_byteJ _).2 (own_byteJ _).1 (own_byteJ _).2
  exact r.1
theorem own_G1 (q1 q2 q3 : Int64) : Good (F_rm1_1 q1 q2 q3) ∧ ¬ (own_cs (F_rm1_1 q1 q2 q3)).length = 0 := by
  have e : F_rm1_1 q1 q2 q3 = own_sp ((1 : Int32) + (((((q3.toUInt64 >>> ((42 : Int32) &&& 0x3f).toInt64.toUInt64).toInt64) &&& (3 : Int64)).toInt32) &&& (1 : Int32))) ((((q1.toUInt64 >>> ((8 : Int32) &&& 0x3f).toInt64.toUInt64).toInt64) &&& (255 : Int64)).toInt32) ((((q2.toUInt64 >>> ((8 : Int32) &&& 0x3f).toInt64.toUInt64).toInt64) &&& (255 : Int64)).toInt32) := rfl
  rw [e]
  have r := own_spG ((1 : Int32) + (((((q3.toUInt64 >>> ((42 : Int32) &&& 0x3f).toInt64.toUInt64).toInt64) &&& (3 : Int64)).toInt32) &&& (1 : Int32))) ((((q1.toUInt64 >>> ((8 : Int32) &&& 0x3f).toInt64.toUInt64).toInt64) &&& (255 : Int64)).toInt32) ((((q2.toUInt64 >>> ((8 : Int32) &&& 0x3f).toInt64.toUInt64).toInt64) &&& (255 : Int64)).toInt32) (by have := own_l1 ((((q3.toUInt64 >>> ((42 : Int32) &&& 0x3f).toInt64.toUInt64).toInt64) &&& (3 : Int64)).toInt32); omega) (own_l1 ((((q3.toUInt64 >>> ((42 : Int32) &&& 0x3f).toInt64.toUInt64).toInt64) &&& (3 : Int64)).toInt32)).2 (own_byteJ _).1 (own_byteJ _).2 (own_byteJ _).1 (own_byteJ _).2
  exact ⟨r.1, r.2 (own_l1 ((((q3.toUInt64 >>> ((42 : Int32) &&& 0x3f).toInt64.toUInt64).toInt64) &&& (3 : Int64)).toInt32)).1⟩
theorem own_G2 (q1 q2 q3 : Int64) : Good (F_rm1_2 q1 q2 q3) := by
  have e : F_rm1_2 q1 q2 q3 = own_sp (((((q3.toUInt64 >>> ((44 : Int32) &&& 0x3f).toInt64.toUInt64).toInt64) &&& (3 : Int64)).toInt32) % (3 : Int32)) ((((q1.toUInt64 >>> ((16 : Int32) &&& 0x3f).toInt64.toUInt64).toInt64) &&& (255 : Int64)).toInt32) ((((q2.toUInt64 >>> ((16 : Int32) &&& 0x3f).toInt64.toUInt64).toInt64) &&& (255 : Int64)).toInt32) := rfl
  rw [e]
  have r := own_spG (((((q3.toUInt64 >>> ((44 : Int32) &&& 0x3f).toInt64.toUInt64).toInt64) &&& (3 : Int64)).toInt32) % (3 : Int32)) ((((q1.toUInt64 >>> ((16 : Int32) &&& 0x3f).toInt64.toUInt64).toInt64) &&& (255 : Int64)).toInt32) ((((q2.toUInt64 >>> ((16 : Int32) &&& 0x3f).toInt64.toUInt64).toInt64) &&& (255 : Int64)).toInt32) (own_l3 _).1 (own_l3 _).2 (own_byteJ _).1 (own_byteJ _).2 (own_byteJ _).1 (own_byteJ _).2
  exact r.1
theorem own_G3 (q1 q2 q3 : Int64) : Good (F_rm1_3 q1 q2 q3) := by
  have e : F_rm1_3 q1 q2 q3 = own_sp (((((q3.toUInt64 >>> ((46 : Int32) &&& 0x3f).toInt64.toUInt64).toInt64) &&& (3 : Int64)).toInt32) % (3 : Int32)) ((((q1.toUInt64 >>> ((24 : Int32) &&& 0x3f).toInt64.toUInt64).toInt64) &&& (255 : Int64)).toInt32) ((((q2.toUInt64 >>> ((24 : Int32) &&& 0x3f).toInt64.toUInt64).toInt64) &&& (255 : Int64)).toInt32) := rfl
  rw [e]
  have r := own_spG (((((q3.toUInt64 >>> ((46 : Int32) &&& 0x3f).toInt64.toUInt64).toInt64) &&& (3 : Int64)).toInt32) % (3 : Int32)) ((((q1.toUInt64 >>> ((24 : Int32) &&& 0x3f).toInt64.toUInt64).toInt64) &&& (255 : Int64)).toInt32) ((((q2.toUInt64 >>> ((24 : Int32) &&& 0x3f).toInt64.toUInt64).toInt64) &&& (255 : Int64)).toInt32) (own_l3 _).1 (own_l3 _).2 (own_byteJ _).1 (own_byteJ _).2 (own_byteJ _).1 (own_byteJ _).2
  exact r.1
theorem own_G4 (q1 q2 q3 : Int64) : Good (F_rm1_4 q1 q2 q3) ∧ ¬ (own_cs (F_rm1_4 q1 q2 q3)).length = 0 := by
  have e : F_rm1_4 q1 q2 q3 = own_sp ((1 : Int32) + (((((q3.toUInt64 >>> ((48 : Int32) &&& 0x3f).toInt64.toUInt64).toInt64) &&& (3 : Int64)).toInt32) &&& (1 : Int32))) ((((q1.toUInt64 >>> ((32 : Int32) &&& 0x3f).toInt64.toUInt64).toInt64) &&& (255 : Int64)).toInt32) ((((q2.toUInt64 >>> ((32 : Int32) &&& 0x3f).toInt64.toUInt64).toInt64) &&& (255 : Int64)).toInt32) := rfl
  rw [e]
  have r := own_spG ((1 : Int32) + (((((q3.toUInt64 >>> ((48 : Int32) &&& 0x3f).toInt64.toUInt64).toInt64) &&& (3 : Int64)).toInt32) &&& (1 : Int32))) ((((q1.toUInt64 >>> ((32 : Int32) &&& 0x3f).toInt64.toUInt64).toInt64) &&& (255 : Int64)).toInt32) ((((q2.toUInt64 >>> ((32 : Int32) &&& 0x3f).toInt64.toUInt64).toInt64) &&& (255 : Int64)).toInt32) (by have := own_l1 ((((q3.toUInt64 >>> ((48 : Int32) &&& 0x3f).toInt64.toUInt64).toInt64) &&& (3 : Int64)).toInt32); omega) (own_l1 ((((q3.toUInt64 >>> ((48 : Int32) &&& 0x3f).toInt64.toUInt64).toInt64) &&& (3 : Int64)).toInt32)).2 (own_byteJ _).1 (own_byteJ _).2 (own_byteJ _).1 (own_byteJ _).2
  exact ⟨r.1, r.2 (own_l1 ((((q3.toUInt64 >>> ((48 : Int32) &&& 0x3f).toInt64.toUInt64).toInt64) &&& (3 : Int64)).toInt32)).1⟩
theorem own_iteq {P Q : Prop} [Decidable P] [Decidable Q] (h : P ↔ Q) : (if P then (1 : Int32) else 0) = if Q then (1 : Int32) else 0 := by
  by_cases q : Q
  · rw [if_pos q, if_pos (h.mpr q)]
  · rw [if_neg q, if_neg (mt h.mp q)]
theorem own_fin {a0 b0 a1 b1 a2 b2 a3 b3 a4 b4 : Int32} (g0 : Good a0) (k0 : Good b0) (g1 : Good a1) (k1 : Good b1) (g2 : Good a2) (k2 : Good b2) (g3 : Good a3) (k3 : Good b3) (g4 : Good a4) (k4 : Good b4) : F_rm16 (own_cs a0) (own_cs a1) (own_cs a2) (own_cs a3) (own_cs a4) (own_cs b0) (own_cs b1) (own_cs b2) (own_cs b3) (own_cs b4) = if ((a0 = b0) ∧ ((a1 = b1) ∧ ((a2 = b2) ∧ ((a3 = b3) ∧ (a4 = b4))))) then (1 : Int32) else 0 := by
  unfold F_rm16
  exact own_iteq (and_congr (own_inj g0 k0) (and_congr (own_inj g1 k1) (and_congr (own_inj g2 k2) (and_congr (own_inj g3 k3) (own_inj g4 k4)))))
theorem own_self (c0 c1 c2 c3 c4 : List Int32) : F_rm16s c0 c1 c2 c3 c4 = 1 := by unfold F_rm16s; simp
theorem own_sub : ∀ p ∈ own_EL, p ∈ consts_1 := by decide +kernel
theorem pd_8 : parseMethodDescriptor "(JJJIZ)I" = some ⟨[.long, .long, .long, .int, .boolean], some .int⟩ := by decide +kernel
theorem pd_9 : parseMethodDescriptor "(I)Ljava/lang/String;" = some ⟨[.int], some (.object "java/lang/String")⟩ := by decide +kernel
theorem pd_10 : parseMethodDescriptor "(Ljava/lang/String;Ljava/lang/String;Ljava/lang/String;Ljava/lang/String;Ljava/lang/String;)V" = some ⟨[(.object "java/lang/String"), (.object "java/lang/String"), (.object "java/lang/String"), (.object "java/lang/String"), (.object "java/lang/String")], none⟩ := by decide +kernel
def Q_rm0 (Z : State) (q1 : Int64) (q2 : Int64) (q3 : Int64) (q4 : Int64) (p5 : Int32) (p6 : Int32) (cs : Int32) (h0 : Heap) (n0 : Nat) (v : Option Value) (h : Heap) (L : List Loc) : Prop := v = some (.int 1) ∧ Fr n0 L
theorem ef_rm0 (m : MethodId) (x0 : Int64) (x1 : Int64) (x2 : Int64) (x3 : Int64) (x4 : Int32) (x5 : Int32) : entryFrame m #[(.long x0), (.long x1), (.long x2), (.long x3), (.int x4), (.int x5)] maxLocals = mkF m 0 #[.val (.long x0), .second, .val (.long x1), .second, .val (.long x2), .second, .val (.long x3), .second, .val (.int x4), .val (.int x5), .unset, .unset, .unset, .unset, .unset, .unset, .unset, .unset, .unset, .unset, .unset, .unset, .unset, .unset] [] := by first | (simp [entryFrame, mkF, argsToLocals, Value.category, maxLocals]; done) | rfl
set_option maxRecDepth 65536 in
set_option maxHeartbeats 40000000 in
theorem rm0 (l : Launch) (Z : State) (a0 : Array Value) (hw : ∀ d ∈ tables_1, d.before a0 Z = true) (ws : List Jvm.Cond) (q1 : Int64) (q2 : Int64) (q3 : Int64) (q4 : Int64) (p5 : Int32) (p6 : Int32) (cs : Int32) (h0 : Heap) (n0 : Nat) (Z0 : n0 ≤ h0.size) (S_String_COMPACT_STRINGS : Sta Z h0 "java/lang/String" "COMPACT_STRINGS" "Z" (.int cs)) (hcs : ¬ (cs = (0 : Int32))) :
    MetFree l x (head1 (Jvm.Cond.code x code maxLocals ret :: ws) room_1) (fun a U => a = #[(.long q1), (.long q2), (.long q3), (.long q4), (.int p5), (.int p6)] ∧ Z.Warmed39 U.vm ∧ U.heap = h0 ∧ CHv Z own_EL U.vm h0) (fun _ _ _ _ _ => True) (fun _ U o U' => ∃ v L, o = .returned v ∧ Q_rm0 Z q1 q2 q3 q4 p5 p6 cs h0 n0 v U'.heap L ∧ CHr Z own_EL U.vm U.heap U'.vm U'.heap ∧ ReturnedEndW U o U' L 55 390) := by
  refine MetFree.of_bodySF (plainFor_of_name pn_2) hisR ?_
  intro p e s m args below meth c s₁ Bd hml0 hP hK
  obtain ⟨rfl, hZ, hh, hCH⟩ := hP
  have hx := Bd.exec
  have hby := Bd.bytes
  have hml : c.maxLocals = 24 := hml0
  have hown : (s.setVm s.vm).vm.findClass "com/example/subjectory/subjectory/heading/ClassLinkEqualsPinLaw" = some m.cls := findClass_of_methodNamed Bd.named
  have hnm := (name_of_methodNamed Bd.named Bd.method).1
  have X0 : Stand p l e room_1 (s.setVm s.vm) m #[(.long q1), (.long q2), (.long q3), (.long q4), (.int p5), (.int p6)] below meth c s₁ [] 0 0 := Stand.of_body Bd
  have e0 : s₁.heap = h0 := by rw [← hh, Bd.state]; rfl
  have N0 := Fr.nil n0
  have hS : s.Since s.vm 0 := (State.WarmedH.refl s).since 0
  have hk : 0 ≤ h0.size := Nat.zero_le _
  have C0 : CHr Z own_EL s.vm s.heap s.vm h0 := by rw [hh]; exact CHr.refl hCH
  show RunW p e below s Z own_EL 55 390 (Q_rm0 Z q1 q2 q3 q4 p5 p6 cs h0 n0) (s₁.setTop (entryFrame m #[(.long q1), (.long q2), (.long q3), (.long q4), (.int p5), (.int p6)] maxLocals))
  refine RunW.go (fun _ k => castTop (ef_rm0 m q1 q2 q3 q4 p5 p6) k) ?_
  show RunW p e below s Z own_EL 55 390 (Q_rm0 Z q1 q2 q3 q4 p5 p6 cs h0 n0) (s₁.setTop (mkF m 0 #[.val (.long q1), .second, .val (.long q2), .second, .val (.long q3), .second, .val (.long q4), .second, .val (.int p5), .val (.int p6), .unset, .unset, .unset, .unset, .unset, .unset, .unset, .unset, .unset, .unset, .unset, .unset, .unset, .unset] []))
  refine RunW.go (fun _ k => XS.lloadN X0.here hx rfl (hb hby at_0) rfl  k) ?_
  show RunW p e below s Z own_EL 55 390 (Q_rm0 Z q1 q2 q3 q4 p5 p6 cs h0 n0) (s₁.setTop (mkF m 1 #[.val (.long q1), .second, .val (.long q2), .second, .val (.long q3), .second, .val (.long q4), .second, .val (.int p5), .val (.int p6), .unset, .unset, .unset, .unset, .unset, .unset, .unset, .unset, .unset, .unset, .unset, .unset, .unset, .unset] [(.long q1)]))
  refine RunW.go (fun _ k => XS.lloadN X0.here hx rfl (hb hby at_1) rfl  k) ?_
  show RunW p e below s Z own_EL 55 390 (Q_rm0 Z q1 q2 q3 q4 p5 p6 cs h0 n0) (s₁.setTop (mkF m 2 #[.val (.long q1), .second, .val (.long q2), .second, .val (.long q3), .second, .val (.long q4), .second, .val (.int p5), .val (.int p6), .unset, .unset, .unset, .unset, .unset, .unset, .unset, .unset, .unset, .unset, .unset, .unset, .unset, .unset] [(.long q2), (.long q1)]))
  refine RunW.go (fun _ k => XS.lloadN X0.here hx rfl (hb hby at_2) rfl  k) ?_
  show RunW p e below s Z own_EL 55 390 (Q_rm0 Z q1 q2 q3 q4 p5 p6 cs h0 n0) (s₁.setTop (mkF m 3 #[.val (.long q1), .second, .val (.long q2), .second, .val (.long q3), .second, .val (.long q4), .second, .val (.int p5), .val (.int p6), .unset, .unset, .unset, .unset, .unset, .unset, .unset, .unset, .unset, .unset, .unset, .unset, .unset, .unset] [(.long q1), (.long q2), (.long q1)]))
  refine RunW.go (fun _ k => XS.iconst X0.here hx rfl (hb hby at_3) k) ?_
  show RunW p e below s Z own_EL 55 390 (Q_rm0 Z q1 q2 q3 q4 p5 p6 cs h0 n0) (s₁.setTop (mkF m 4 #[.val (.long q1), .second, .val (.long q2), .second, .val (.long q3), .second, .val (.long q4), .second, .val (.int p5), .val (.int p6), .unset, .unset, .unset, .unset, .unset, .unset, .unset, .unset, .unset, .unset, .unset, .unset, .unset, .unset] [(.int (0 : Int32)), (.long q1), (.long q2), (.long q1)]))
  refine RunW.go (fun _ k => XS.iconst X0.here hx rfl (hb hby at_4) k) ?_
  show RunW p e below s Z own_EL 55 390 (Q_rm0 Z q1 q2 q3 q4 p5 p6 cs h0 n0) (s₁.setTop (mkF m 5 #[.val (.long q1), .second, .val (.long q2), .second, .val (.long q3), .second, .val (.long q4), .second, .val (.int p5), .val (.int p6), .unset, .unset, .unset, .unset, .unset, .unset, .unset, .unset, .unset, .unset, .unset, .unset, .unset, .unset] [(.int (0 : Int32)), (.int (0 : Int32)), (.long q1), (.long q2), (.long q1)]))
  obtain ⟨_, _, ⟨T7, L7, k7, n7⟩, -, X7, ⟨Lc7, hQ7, l7, y7, z7⟩, st7⟩ := Jvm.LawKit.callS X0 hx (y := (⟨"com/example/subjectory/subjectory/heading/ClassLinkEqualsPinLaw", "spec", "(JJJIZ)I"⟩ : MethodName)) hown (mvT hZ (hw _ (List.mem_of_getElem? (i := 0) rfl))) (mvT hZ (hw _ (List.mem_of_getElem? (i := 1) rfl))) (mvT hZ (hw _ (List.mem_of_getElem? (i := 2) rfl))) (mvT hZ (hw _ (List.mem_of_getElem? (i := 3) rfl))) (by decide) (backOf (W := 0) (rm1_0 l Z a0 hw [] q1 q2 q1 h0 n0 Z0 ) hZ (hw _ (List.mem_of_getElem? (i := 3) rfl)) (hw _ (List.mem_of_getElem? (i := 2) rfl)) (by decide) (by decide)) (g := (mkF m 5 #[.val (.long q1), .second, .val (.long q2), .second, .val (.long q3), .second, .val (.long q4), .second, .val (.int p5), .val (.int p6), .unset, .unset, .unset, .unset, .unset, .unset, .unset, .unset, .unset, .unset, .unset, .unset, .unset, .unset] [(.int (0 : Int32)), (.int (0 : Int32)), (.long q1), (.long q2), (.long q1)])) rfl (by rw [hml]; rfl) (argsL := [(.long q1), (.long q2), (.long q1), (.int (0 : Int32)), (.int (0 : Int32))]) (rest := []) (lenOf pd_8 rfl) rfl (by show 2 * 0 + _ ≤ _; exact Nat.le_of_eq rfl) (hb hby at_5) (fun _ _ => ⟨rfl, e0, (by decide : 0 + 0 ≤ _), (by decide : 0 + 0 ≤ _)⟩)
  dsimp only [Pt.U, Pt.locs, Pt.cells, Pt.slots] at X7 l7 y7 z7 st7 hQ7
  subst l7 y7 z7
  obtain ⟨rfl, N7q, e7q⟩ := hQ7
  have N7 := Fr.app N0 N7q
  obtain ⟨Lg7, Xg7, Ng7⟩ := Stand_gen X7 N7
  refine RunW.go st7 ?_
  show RunW p e below s Z own_EL 55 390 (Q_rm0 Z q1 q2 q3 q4 p5 p6 cs h0 n0) (T7.setTop (mkF m 8 #[.val (.long q1), .second, .val (.long q2), .second, .val (.long q3), .second, .val (.long q4), .second, .val (.int p5), .val (.int p6), .unset, .unset, .unset, .unset, .unset, .unset, .unset, .unset, .unset, .unset, .unset, .unset, .unset, .unset] [(.int (F_rm1_0 q1 q2 q1))]))
  refine RunW.go (fun _ k => XS.istore Xg7.here hx rfl (hb hby at_8) rfl (l' := #[.val (.long q1), .second, .val (.long q2), .second, .val (.long q3), .second, .val (.long q4), .second, .val (.int p5), .val (.int p6), .val (.int (F_rm1_0 q1 q2 q1)), .unset, .unset, .unset, .unset, .unset, .unset, .unset, .unset, .unset, .unset, .unset, .unset, .unset]) rfl k) ?_
  show RunW p e below s Z own_EL 55 390 (Q_rm0 Z q1 q2 q3 q4 p5 p6 cs h0 n0) (T7.setTop (mkF m 10 #[.val (.long q1), .second, .val (.long q2), .second, .val (.long q3), .second, .val (.long q4), .second, .val (.int p5), .val (.int p6), .val (.int (F_rm1_0 q1 q2 q1)), .unset, .unset, .unset, .unset, .unset, .unset, .unset, .unset, .unset, .unset, .unset, .unset, .unset] []))
  obtain ⟨z8, hz8⟩ : ∃ z, z = (F_rm1_0 q1 q2 q1) := ⟨_, rfl⟩
  rw [← hz8]
  show RunW p e below s Z own_EL 55 390 (Q_rm0 Z q1 q2 q3 q4 p5 p6 cs h0 n0) (T7.setTop (mkF m 10 #[.val (.long q1), .second, .val (.long q2), .second, .val (.long q3), .second, .val (.long q4), .second, .val (.int p5), .val (.int p6), .val (.int z8), .unset, .unset, .unset, .unset, .unset, .unset, .unset, .unset, .unset, .unset, .unset, .unset, .unset] []))
  have ga0 : Good z8 := by rw [hz8]; exact own_G0 _ _ _
  refine RunW.go (fun _ k => XS.lloadN Xg7.here hx rfl (hb hby at_10) rfl  k) ?_
  show RunW p e below s Z own_EL 55 390 (Q_rm0 Z q1 q2 q3 q4 p5 p6 cs h0 n0) (T7.setTop (mkF m 11 #[.val (.long q1), .second, .val (.long q2), .second, .val (.long q3), .second, .val (.long q4), .second, .val (.int p5), .val (.int p6), .val (.int z8), .unset, .unset, .unset, .unset, .unset, .unset, .unset, .unset, .unset, .unset, .unset, .unset, .unset] [(.long q1)]))
  refine RunW.go (fun _ k => XS.lloadN Xg7.here hx rfl (hb hby at_11) rfl  k) ?_
  show RunW p e below s Z own_EL 55 390 (Q_rm0 Z q1 q2 q3 q4 p5 p6 cs h0 n0) (T7.setTop (mkF m 12 #[.val (.long q1), .second, .val (.long q2), .second, .val (.long q3), .second, .val (.long q4), .second, .val (.int p5), .val (.int p6), .val (.int z8), .unset, .unset, .unset, .unset, .unset, .unset, .unset, .unset, .unset, .unset, .unset, .unset, .unset] [(.long q2), (.long q1)]))
  refine RunW.go (fun _ k => XS.lloadN Xg7.here hx rfl (hb hby at_12) rfl  k) ?_
  show RunW p e below s Z own_EL 55 390 (Q_rm0 Z q1 q2 q3 q4 p5 p6 cs h0 n0) (T7.setTop (mkF m 13 #[.val (.long q1), .second, .val (.long q2), .second, .val (.long q3), .second, .val (.long q4), .second, .val (.int p5), .val (.int p6), .val (.int z8), .unset, .unset, .unset, .unset, .unset, .unset, .unset, .unset, .unset, .unset, .unset, .unset, .unset] [(.long q1), (.long q2), (.long q1)]))
  refine RunW.go (fun _ k => XS.iconst Xg7.here hx rfl (hb hby at_13) k) ?_
  show RunW p e below s Z own_EL 55 390 (Q_rm0 Z q1 q2 q3 q4 p5 p6 cs h0 n0) (T7.setTop (mkF m 14 #[.val (.long q1), .second, .val (.long q2), .second, .val (.long q3), .second, .val (.long q4), .second, .val (.int p5), .val (.int p6), .val (.int z8), .unset, .unset, .unset, .unset, .unset, .unset, .unset, .unset, .unset, .unset, .unset, .unset, .unset] [(.int (1 : Int32)), (.long q1), (.long q2), (.long q1)]))
  refine RunW.go (fun _ k => XS.iconst Xg7.here hx rfl (hb hby at_14) k) ?_
  show RunW p e below s Z own_EL 55 390 (Q_rm0 Z q1 q2 q3 q4 p5 p6 cs h0 n0) (T7.setTop (mkF m 15 #[.val (.long q1), .second, .val (.long q2), .second, .val (.long q3), .second, .val (.long q4), .second, .val (.int p5), .val (.int p6), .val (.int z8), .unset, .unset, .unset, .unset, .unset, .unset, .unset, .unset, .unset, .unset, .unset, .unset, .unset] [(.int (1 : Int32)), (.int (1 : Int32)), (.long q1), (.long q2), (.long q1)]))
  obtain ⟨_, _, ⟨T9, L9, k9, n9⟩, -, X9, ⟨Lc9, hQ9, l9, y9, z9⟩, st9⟩ := Jvm.LawKit.callS Xg7 hx (y := (⟨"com/example/subjectory/subjectory/heading/ClassLinkEqualsPinLaw", "spec", "(JJJIZ)I"⟩ : MethodName)) hown (mvT hZ (hw _ (List.mem_of_getElem? (i := 0) rfl))) (mvT hZ (hw _ (List.mem_of_getElem? (i := 1) rfl))) (mvT hZ (hw _ (List.mem_of_getElem? (i := 2) rfl))) (mvT hZ (hw _ (List.mem_of_getElem? (i := 3) rfl))) (by decide) (backOf (W := 0) (rm1_1 l Z a0 hw [] q1 q2 q1 h0 n0 Z0 ) hZ (hw _ (List.mem_of_getElem? (i := 3) rfl)) (hw _ (List.mem_of_getElem? (i := 2) rfl)) (by decide) (by decide)) (g := (mkF m 15 #[.val (.long q1), .second, .val (.long q2), .second, .val (.long q3), .second, .val (.long q4), .second, .val (.int p5), .val (.int p6), .val (.int z8), .unset, .unset, .unset, .unset, .unset, .unset, .unset, .unset, .unset, .unset, .unset, .unset, .unset] [(.int (1 : Int32)), (.int (1 : Int32)), (.long q1), (.long q2), (.long q1)])) rfl (by rw [hml]; rfl) (argsL := [(.long q1), (.long q2), (.long q1), (.int (1 : Int32)), (.int (1 : Int32))]) (rest := []) (lenOf pd_8 rfl) rfl (by show 2 * 0 + _ ≤ _; exact Nat.le_of_eq rfl) (hb hby at_15) (fun _ _ => ⟨rfl, e7q, (by decide : 0 + 0 ≤ _), (by decide : 0 + 0 ≤ _)⟩)
  dsimp only [Pt.U, Pt.locs, Pt.cells, Pt.slots] at X9 l9 y9 z9 st9 hQ9
  subst l9 y9 z9
  obtain ⟨rfl, N9q, e9q⟩ := hQ9
  have N9 := Fr.app Ng7 N9q
  obtain ⟨Lg9, Xg9, Ng9⟩ := Stand_gen X9 N9
  refine RunW.go st9 ?_
  show RunW p e below s Z own_EL 55 390 (Q_rm0 Z q1 q2 q3 q4 p5 p6 cs h0 n0) (T9.setTop (mkF m 18 #[.val (.long q1), .second, .val (.long q2), .second, .val (.long q3), .second, .val (.long q4), .second, .val (.int p5), .val (.int p6), .val (.int z8), .unset, .unset, .unset, .unset, .unset, .unset, .unset, .unset, .unset, .unset, .unset, .unset, .unset] [(.int (F_rm1_1 q1 q2 q1))]))
  refine RunW.go (fun _ k => XS.istore Xg9.here hx rfl (hb hby at_18) rfl (l' := #[.val (.long q1), .second, .val (.long q2), .second, .val (.long q3), .second, .val (.long q4), .second, .val (.int p5), .val (.int p6), .val (.int z8), .val (.int (F_rm1_1 q1 q2 q1)), .unset, .unset, .unset, .unset, .unset, .unset, .unset, .unset, .unset, .unset, .unset, .unset]) rfl k) ?_
  show RunW p e below s Z own_EL 55 390 (Q_rm0 Z q1 q2 q3 q4 p5 p6 cs h0 n0) (T9.setTop (mkF m 20 #[.val (.long q1), .second, .val (.long q2), .second, .val (.long q3), .second, .val (.long q4), .second, .val (.int p5), .val (.int p6), .val (.int z8), .val (.int (F_rm1_1 q1 q2 q1)), .unset, .unset, .unset, .unset, .unset, .unset, .unset, .unset, .unset, .unset, .unset, .unset] []))
  obtain ⟨z10, hz10⟩ : ∃ z, z = (F_rm1_1 q1 q2 q1) := ⟨_, rfl⟩
  rw [← hz10]
  show RunW p e below s Z own_EL 55 390 (Q_rm0 Z q1 q2 q3 q4 p5 p6 cs h0 n0) (T9.setTop (mkF m 20 #[.val (.long q1), .second, .val (.long q2), .second, .val (.long q3), .second, .val (.long q4), .second, .val (.int p5), .val (.int p6), .val (.int z8), .val (.int z10), .unset, .unset, .unset, .unset, .unset, .unset, .unset, .unset, .unset, .unset, .unset, .unset] []))
  have gz1 : Good z10 ∧ ¬ (own_cs z10).length = 0 := by rw [hz10]; exact own_G1 _ _ _
  have ga1 := gz1.1
  refine RunW.go (fun _ k => XS.lloadN Xg9.here hx rfl (hb hby at_20) rfl  k) ?_
  show RunW p e below s Z own_EL 55 390 (Q_rm0 Z q1 q2 q3 q4 p5 p6 cs h0 n0) (T9.setTop (mkF m 21 #[.val (.long q1), .second, .val (.long q2), .second, .val (.long q3), .second, .val (.long q4), .second, .val (.int p5), .val (.int p6), .val (.int z8), .val (.int z10), .unset, .unset, .unset, .unset, .unset, .unset, .unset, .unset, .unset, .unset, .unset, .unset] [(.long q1)]))
  refine RunW.go (fun _ k => XS.lloadN Xg9.here hx rfl (hb hby at_21) rfl  k) ?_
  show RunW p e below s Z own_EL 55 390 (Q_rm0 Z q1 q2 q3 q4 p5 p6 cs h0 n0) (T9.setTop (mkF m 22 #[.val (.long q1), .second, .val (.long q2), .second, .val (.long q3), .second, .val (.long q4), .second, .val (.int p5), .val (.int p6), .val (.int z8), .val (.int z10), .unset, .unset, .unset, .unset, .unset, .unset, .unset, .unset, .unset, .unset, .unset, .unset] [(.long q2), (.long q1)]))
  refine RunW.go (fun _ k => XS.lloadN Xg9.here hx rfl (hb hby at_22) rfl  k) ?_
  show RunW p e below s Z own_EL 55 390 (Q_rm0 Z q1 q2 q3 q4 p5 p6 cs h0 n0) (T9.setTop (mkF m 23 #[.val (.long q1), .second, .val (.long q2), .second, .val (.long q3), .second, .val (.long q4), .second, .val (.int p5), .val (.int p6), .val (.int z8), .val (.int z10), .unset, .unset, .unset, .unset, .unset, .unset, .unset, .unset, .unset, .unset, .unset, .unset] [(.long q1), (.long q2), (.long q1)]))
  refine RunW.go (fun _ k => XS.iconst Xg9.here hx rfl (hb hby at_23) k) ?_
  show RunW p e below s Z own_EL 55 390 (Q_rm0 Z q1 q2 q3 q4 p5 p6 cs h0 n0) (T9.setTop (mkF m 24 #[.val (.long q1), .second, .val (.long q2), .second, .val (.long q3), .second, .val (.long q4), .second, .val (.int p5), .val (.int p6), .val (.int z8), .val (.int z10), .unset, .unset, .unset, .unset, .unset, .unset, .unset, .unset, .unset, .unset, .unset, .unset] [(.int (2 : Int32)), (.long q1), (.long q2), (.long q1)]))
  refine RunW.go (fun _ k => XS.iconst Xg9.here hx rfl (hb hby at_24) k) ?_
  show RunW p e below s Z own_EL 55 390 (Q_rm0 Z q1 q2 q3 q4 p5 p6 cs h0 n0) (T9.setTop (mkF m 25 #[.val (.long q1), .second, .val (.long q2), .second, .val (.long q3), .second, .val (.long q4), .second, .val (.int p5), .val (.int p6), .val (.int z8), .val (.int z10), .unset, .unset, .unset, .unset, .unset, .unset, .unset, .unset, .unset, .unset, .unset, .unset] [(.int (0 : Int32)), (.int (2 : Int32)), (.long q1), (.long q2), (.long q1)]))
  obtain ⟨_, _, ⟨T11, L11, k11, n11⟩, -, X11, ⟨Lc11, hQ11, l11, y11, z11⟩, st11⟩ := Jvm.LawKit.callS Xg9 hx (y := (⟨"com/example/subjectory/subjectory/heading/ClassLinkEqualsPinLaw", "spec", "(JJJIZ)I"⟩ : MethodName)) hown (mvT hZ (hw _ (List.mem_of_getElem? (i := 0) rfl))) (mvT hZ (hw _ (List.mem_of_getElem? (i := 1) rfl))) (mvT hZ (hw _ (List.mem_of_getElem? (i := 2) rfl))) (mvT hZ (hw _ (List.mem_of_getElem? (i := 3) rfl))) (by decide) (backOf (W := 0) (rm1_2 l Z a0 hw [] q1 q2 q1 h0 n0 Z0 ) hZ (hw _ (List.mem_of_getElem? (i := 3) rfl)) (hw _ (List.mem_of_getElem? (i := 2) rfl)) (by decide) (by decide)) (g := (mkF m 25 #[.val (.long q1), .second, .val (.long q2), .second, .val (.long q3), .second, .val (.long q4), .second, .val (.int p5), .val (.int p6), .val (.int z8), .val (.int z10), .unset, .unset, .unset, .unset, .unset, .unset, .unset, .unset, .unset, .unset, .unset, .unset] [(.int (0 : Int32)), (.int (2 : Int32)), (.long q1), (.long q2), (.long q1)])) rfl (by rw [hml]; rfl) (argsL := [(.long q1), (.long q2), (.long q1), (.int (2 : Int32)), (.int (0 : Int32))]) (rest := []) (lenOf pd_8 rfl) rfl (by show 2 * 0 + _ ≤ _; exact Nat.le_of_eq rfl) (hb hby at_25) (fun _ _ => ⟨rfl, e9q, (by decide : 0 + 0 ≤ _), (by decide : 0 + 0 ≤ _)⟩)
  dsimp only [Pt.U, Pt.locs, Pt.cells, Pt.slots] at X11 l11 y11 z11 st11 hQ11
  subst l11 y11 z11
  obtain ⟨rfl, N11q, e11q⟩ := hQ11
  have N11 := Fr.app Ng9 N11q
  obtain ⟨Lg11, Xg11, Ng11⟩ := Stand_gen X11 N11
  refine RunW.go st11 ?_
  show RunW p e below s Z own_EL 55 390 (Q_rm0 Z q1 q2 q3 q4 p5 p6 cs h0 n0) (T11.setTop (mkF m 28 #[.val (.long q1), .second, .val (.long q2), .second, .val (.long q3), .second, .val (.long q4), .second, .val (.int p5), .val (.int p6), .val (.int z8), .val (.int z10), .unset, .unset, .unset, .unset, .unset, .unset, .unset, .unset, .unset, .unset, .unset, .unset] [(.int (F_rm1_2 q1 q2 q1))]))
  refine RunW.go (fun _ k => XS.istore Xg11.here hx rfl (hb hby at_28) rfl (l' := #[.val (.long q1), .second, .val (.long q2), .second, .val (.long q3), .second, .val (.long q4), .second, .val (.int p5), .val (.int p6), .val (.int z8), .val (.int z10), .val (.int (F_rm1_2 q1 q2 q1)), .unset, .unset, .unset, .unset, .unset, .unset, .unset, .unset, .unset, .unset, .unset]) rfl k) ?_
  show RunW p e below s Z own_EL 55 390 (Q_rm0 Z q1 q2 q3 q4 p5 p6 cs h0 n0) (T11.setTop (mkF m 30 #[.val (.long q1), .second, .val (.long q2), .second, .val (.long q3), .second, .val (.long q4), .second, .val (.int p5), .val (.int p6), .val (.int z8), .val (.int z10), .val (.int (F_rm1_2 q1 q2 q1)), .unset, .unset, .unset, .unset, .unset, .unset, .unset, .unset, .unset, .unset, .unset] []))
  obtain ⟨z12, hz12⟩ : ∃ z, z = (F_rm1_2 q1 q2 q1) := ⟨_, rfl⟩
  rw [← hz12]
  show RunW p e below s Z own_EL 55 390 (Q_rm0 Z q1 q2 q3 q4 p5 p6 cs h0 n0) (T11.setTop (mkF m 30 #[.val (.long q1), .second, .val (.long q2), .second, .val (.long q3), .second, .val (.long q4), .second, .val (.int p5), .val (.int p6), .val (.int z8), .val (.int z10), .val (.int z12), .unset, .unset, .unset, .unset, .unset, .unset, .unset, .unset, .unset, .unset, .unset] []))
  have ga2 : Good z12 := by rw [hz12]; exact own_G2 _ _ _
  refine RunW.go (fun _ k => XS.lloadN Xg11.here hx rfl (hb hby at_30) rfl  k) ?_
  show RunW p e below s Z own_EL 55 390 (Q_rm0 Z q1 q2 q3 q4 p5 p6 cs h0 n0) (T11.setTop (mkF m 31 #[.val (.long q1), .second, .val (.long q2), .second, .val (.long q3), .second, .val (.long q4), .second, .val (.int p5), .val (.int p6), .val (.int z8), .val (.int z10), .val (.int z12), .unset, .unset, .unset, .unset, .unset, .unset, .unset, .unset, .unset, .unset, .unset] [(.long q1)]))
  refine RunW.go (fun _ k => XS.lloadN Xg11.here hx rfl (hb hby at_31) rfl  k) ?_
  show RunW p e below s Z own_EL 55 390 (Q_rm0 Z q1 q2 q3 q4 p5 p6 cs h0 n0) (T11.setTop (mkF m 32 #[.val (.long q1), .second, .val (.long q2), .second, .val (.long q3), .second, .val (.long q4), .second, .val (.int p5), .val (.int p6), .val (.int z8), .val (.int z10), .val (.int z12), .unset, .unset, .unset, .unset, .unset, .unset, .unset, .unset, .unset, .unset, .unset] [(.long q2), (.long q1)]))
  refine RunW.go (fun _ k => XS.lloadN Xg11.here hx rfl (hb hby at_32) rfl  k) ?_
  show RunW p e below s Z own_EL 55 390 (Q_rm0 Z q1 q2 q3 q4 p5 p6 cs h0 n0) (T11.setTop (mkF m 33 #[.val (.long q1), .second, .val (.long q2), .second, .val (.long q3), .second, .val (.long q4), .second, .val (.int p5), .val (.int p6), .val (.int z8), .val (.int z10), .val (.int z12), .unset, .unset, .unset, .unset, .unset, .unset, .unset, .unset, .unset, .unset, .unset] [(.long q1), (.long q2), (.long q1)]))
  refine RunW.go (fun _ k => XS.iconst Xg11.here hx rfl (hb hby at_33) k) ?_
  show RunW p e below s Z own_EL 55 390 (Q_rm0 Z q1 q2 q3 q4 p5 p6 cs h0 n0) (T11.setTop (mkF m 34 #[.val (.long q1), .second, .val (.long q2), .second, .val (.long q3), .second, .val (.long q4), .second, .val (.int p5), .val (.int p6), .val (.int z8), .val (.int z10), .val (.int z12), .unset, .unset, .unset, .unset, .unset, .unset, .unset, .unset, .unset, .unset, .unset] [(.int (3 : Int32)), (.long q1), (.long q2), (.long q1)]))
  refine RunW.go (fun _ k => XS.iconst Xg11.here hx rfl (hb hby at_34) k) ?_
  show RunW p e below s Z own_EL 55 390 (Q_rm0 Z q1 q2 q3 q4 p5 p6 cs h0 n0) (T11.setTop (mkF m 35 #[.val (.long q1), .second, .val (.long q2), .second, .val (.long q3), .second, .val (.long q4), .second, .val (.int p5), .val (.int p6), .val (.int z8), .val (.int z10), .val (.int z12), .unset, .unset, .unset, .unset, .unset, .unset, .unset, .unset, .unset, .unset, .unset] [(.int (0 : Int32)), (.int (3 : Int32)), (.long q1), (.long q2), (.long q1)]))
  obtain ⟨_, _, ⟨T13, L13, k13, n13⟩, -, X13, ⟨Lc13, hQ13, l13, y13, z13⟩, st13⟩ := Jvm.LawKit.callS Xg11 hx (y := (⟨"com/example/subjectory/subjectory/heading/ClassLinkEqualsPinLaw", "spec", "(JJJIZ)I"⟩ : MethodName)) hown (mvT hZ (hw _ (List.mem_of_getElem? (i := 0) rfl))) (mvT hZ (hw _ (List.mem_of_getElem? (i := 1) rfl))) (mvT hZ (hw _ (List.mem_of_getElem? (i := 2) rfl))) (mvT hZ (hw _ (List.mem_of_getElem? (i := 3) rfl))) (by decide) (backOf (W := 0) (rm1_3 l Z a0 hw [] q1 q2 q1 h0 n0 Z0 ) hZ (hw _ (List.mem_of_getElem? (i := 3) rfl)) (hw _ (List.mem_of_getElem? (i := 2) rfl)) (by decide) (by decide)) (g := (mkF m 35 #[.val (.long q1), .second, .val (.long q2), .second, .val (.long q3), .second, .val (.long q4), .second, .val (.int p5), .val (.int p6), .val (.int z8), .val (.int z10), .val (.int z12), .unset, .unset, .unset, .unset, .unset, .unset, .unset, .unset, .unset, .unset, .unset] [(.int (0 : Int32)), (.int (3 : Int32)), (.long q1), (.long q2), (.long q1)])) rfl (by rw [hml]; rfl) (argsL := [(.long q1), (.long q2), (.long q1), (.int (3 : Int32)), (.int (0 : Int32))]) (rest := []) (lenOf pd_8 rfl) rfl (by show 2 * 0 + _ ≤ _; exact Nat.le_of_eq rfl) (hb hby at_35) (fun _ _ => ⟨rfl, e11q, (by decide : 0 + 0 ≤ _), (by decide : 0 + 0 ≤ _)⟩)
  dsimp only [Pt.U, Pt.locs, Pt.cells, Pt.slots] at X13 l13 y13 z13 st13 hQ13
  subst l13 y13 z13
  obtain ⟨rfl, N13q, e13q⟩ := hQ13
  have N13 := Fr.app Ng11 N13q
  obtain ⟨Lg13, Xg13, Ng13⟩ := Stand_gen X13 N13
  refine RunW.go st13 ?_
  show RunW p e below s Z own_EL 55 390 (Q_rm0 Z q1 q2 q3 q4 p5 p6 cs h0 n0) (T13.setTop (mkF m 38 #[.val (.long q1), .second, .val (.long q2), .second, .val (.long q3), .second, .val (.long q4), .second, .val (.int p5), .val (.int p6), .val (.int z8), .val (.int z10), .val (.int z12), .unset, .unset, .unset, .unset, .unset, .unset, .unset, .unset, .unset, .unset, .unset] [(.int (F_rm1_3 q1 q2 q1))]))
  refine RunW.go (fun _ k => XS.istore Xg13.here hx rfl (hb hby at_38) rfl (l' := #[.val (.long q1), .second, .val (.long q2), .second, .val (.long q3), .second, .val (.long q4), .second, .val (.int p5), .val (.int p6), .val (.int z8), .val (.int z10), .val (.int z12), .val (.int (F_rm1_3 q1 q2 q1)), .unset, .unset, .unset, .unset, .unset, .unset, .unset, .unset, .unset, .unset]) rfl k) ?_
  show RunW p e below s Z own_EL 55 390 (Q_rm0 Z q1 q2 q3 q4 p5 p6 cs h0 n0) (T13.setTop (mkF m 40 #[.val (.long q1), .second, .val (.long q2), .second, .val (.long q3), .second, .val (.long q4), .second, .val (.int p5), .val (.int p6), .val (.int z8), .val (.int z10), .val (.int z12), .val (.int (F_rm1_3 q1 q2 q1)), .unset, .unset, .unset, .unset, .unset, .unset, .unset, .unset, .unset, .unset] []))
  obtain ⟨z14, hz14⟩ : ∃ z, z = (F_rm1_3 q1 q2 q1) := ⟨_, rfl⟩
  rw [← hz14]
  show RunW p e below s Z own_EL 55 390 (Q_rm0 Z q1 q2 q3 q4 p5 p6 cs h0 n0) (T13.setTop (mkF m 40 #[.val (.long q1), .second, .val (.long q2), .second, .val (.long q3), .second, .val (.long q4), .second, .val (.int p5), .val (.int p6), .val (.int z8), .val (.int z10), .val (.int z12), .val (.int z14), .unset, .unset, .unset, .unset, .unset, .unset, .unset, .unset, .unset, .unset] []))
  have ga3 : Good z14 := by rw [hz14]; exact own_G3 _ _ _
  refine RunW.go (fun _ k => XS.lloadN Xg13.here hx rfl (hb hby at_40) rfl  k) ?_
  show RunW p e below s Z own_EL 55 390 (Q_rm0 Z q1 q2 q3 q4 p5 p6 cs h0 n0) (T13.setTop (mkF m 41 #[.val (.long q1), .second, .val (.long q2), .second, .val (.long q3), .second, .val (.long q4), .second, .val (.int p5), .val (.int p6), .val (.int z8), .val (.int z10), .val (.int z12), .val (.int z14), .unset, .unset, .unset, .unset, .unset, .unset, .unset, .unset, .unset, .unset] [(.long q1)]))
  refine RunW.go (fun _ k => XS.lloadN Xg13.here hx rfl (hb hby at_41) rfl  k) ?_
  show RunW p e below s Z own_EL 55 390 (Q_rm0 Z q1 q2 q3 q4 p5 p6 cs h0 n0) (T13.setTop (mkF m 42 #[.val (.long q1), .second, .val (.long q2), .second, .val (.long q3), .second, .val (.long q4), .second, .val (.int p5), .val (.int p6), .val (.int z8), .val (.int z10), .val (.int z12), .val (.int z14), .unset, .unset, .unset, .unset, .unset, .unset, .unset, .unset, .unset, .unset] [(.long q2), (.long q1)]))
  refine RunW.go (fun _ k => XS.lloadN Xg13.here hx rfl (hb hby at_42) rfl  k) ?_
  show RunW p e below s Z own_EL 55 390 (Q_rm0 Z q1 q2 q3 q4 p5 p6 cs h0 n0) (T13.setTop (mkF m 43 #[.val (.long q1), .second, .val (.long q2), .second, .val (.long q3), .second, .val (.long q4), .second, .val (.int p5), .val (.int p6), .val (.int z8), .val (.int z10), .val (.int z12), .val (.int z14), .unset, .unset, .unset, .unset, .unset, .unset, .unset, .unset, .unset, .unset] [(.long q1), (.long q2), (.long q1)]))
  refine RunW.go (fun _ k => XS.iconst Xg13.here hx rfl (hb hby at_43) k) ?_
  show RunW p e below s Z own_EL 55 390 (Q_rm0 Z q1 q2 q3 q4 p5 p6 cs h0 n0) (T13.setTop (mkF m 44 #[.val (.long q1), .second, .val (.long q2), .second, .val (.long q3), .second, .val (.long q4), .second, .val (.int p5), .val (.int p6), .val (.int z8), .val (.int z10), .val (.int z12), .val (.int z14), .unset, .unset, .unset, .unset, .unset, .unset, .unset, .unset, .unset, .unset] [(.int (4 : Int32)), (.long q1), (.long q2), (.long q1)]))
  refine RunW.go (fun _ k => XS.iconst Xg13.here hx rfl (hb hby at_44) k) ?_
  show RunW p e below s Z own_EL 55 390 (Q_rm0 Z q1 q2 q3 q4 p5 p6 cs h0 n0) (T13.setTop (mkF m 45 #[.val (.long q1), .second, .val (.long q2), .second, .val (.long q3), .second, .val (.long q4), .second, .val (.int p5), .val (.int p6), .val (.int z8), .val (.int z10), .val (.int z12), .val (.int z14), .unset, .unset, .unset, .unset, .unset, .unset, .unset, .unset, .unset, .unset] [(.int (1 : Int32)), (.int (4 : Int32)), (.long q1), (.long q2), (.long q1)]))
  obtain ⟨_, _, ⟨T15, L15, k15, n15⟩, -, X15, ⟨Lc15, hQ15, l15, y15, z15⟩, st15⟩ := Jvm.LawKit.callS Xg13 hx (y := (⟨"com/example/subjectory/subjectory/heading/ClassLinkEqualsPinLaw", "spec", "(JJJIZ)I"⟩ : MethodName)) hown (mvT hZ (hw _ (List.mem_of_getElem? (i := 0) rfl))) (mvT hZ (hw _ (List.mem_of_getElem? (i := 1) rfl))) (mvT hZ (hw _ (List.mem_of_getElem? (i := 2) rfl))) (mvT hZ (hw _ (List.mem_of_getElem? (i := 3) rfl))) (by decide) (backOf (W := 0) (rm1_4 l Z a0 hw [] q1 q2 q1 h0 n0 Z0 ) hZ (hw _ (List.mem_of_getElem? (i := 3) rfl)) (hw _ (List.mem_of_getElem? (i := 2) rfl)) (by decide) (by decide)) (g := (mkF m 45 #[.val (.long q1), .second, .val (.long q2), .second, .val (.long q3), .second, .val (.long q4), .second, .val (.int p5), .val (.int p6), .val (.int z8), .val (.int z10), .val (.int z12), .val (.int z14), .unset, .unset, .unset, .unset, .unset, .unset, .unset, .unset, .unset, .unset] [(.int (1 : Int32)), (.int (4 : Int32)), (.long q1), (.long q2), (.long q1)])) rfl (by rw [hml]; rfl) (argsL := [(.long q1), (.long q2), (.long q1), (.int (4 : Int32)), (.int (1 : Int32))]) (rest := []) (lenOf pd_8 rfl) rfl (by show 2 * 0 + _ ≤ _; exact Nat.le_of_eq rfl) (hb hby at_45) (fun _ _ => ⟨rfl, e13q, (by decide : 0 + 0 ≤ _), (by decide : 0 + 0 ≤ _)⟩)
  dsimp only [Pt.U, Pt.locs, Pt.cells, Pt.slots] at X15 l15 y15 z15 st15 hQ15
  subst l15 y15 z15
  obtain ⟨rfl, N15q, e15q⟩ := hQ15
  have N15 := Fr.app Ng13 N15q
  obtain ⟨Lg15, Xg15, Ng15⟩ := Stand_gen X15 N15
  refine RunW.go st15 ?_
  show RunW p e below s Z own_EL 55 390 (Q_rm0 Z q1 q2 q3 q4 p5 p6 cs h0 n0) (T15.setTop (mkF m 48 #[.val (.long q1), .second, .val (.long q2), .second, .val (.long q3), .second, .val (.long q4), .second, .val (.int p5), .val (.int p6), .val (.int z8), .val (.int z10), .val (.int z12), .val (.int z14), .unset, .unset, .unset, .unset, .unset, .unset, .unset, .unset, .unset, .unset] [(.int (F_rm1_4 q1 q2 q1))]))
  refine RunW.go (fun _ k => XS.istore Xg15.here hx rfl (hb hby at_48) rfl (l' := #[.val (.long q1), .second, .val (.long q2), .second, .val (.long q3), .second, .val (.long q4), .second, .val (.int p5), .val (.int p6), .val (.int z8), .val (.int z10), .val (.int z12), .val (.int z14), .val (.int (F_rm1_4 q1 q2 q1)), .unset, .unset, .unset, .unset, .unset, .unset, .unset, .unset, .unset]) rfl k) ?_
  show RunW p e below s Z own_EL 55 390 (Q_rm0 Z q1 q2 q3 q4 p5 p6 cs h0 n0) (T15.setTop (mkF m 50 #[.val (.long q1), .second, .val (.long q2), .second, .val (.long q3), .second, .val (.long q4), .second, .val (.int p5), .val (.int p6), .val (.int z8), .val (.int z10), .val (.int z12), .val (.int z14), .val (.int (F_rm1_4 q1 q2 q1)), .unset, .unset, .unset, .unset, .unset, .unset, .unset, .unset, .unset] []))
  obtain ⟨z16, hz16⟩ : ∃ z, z = (F_rm1_4 q1 q2 q1) := ⟨_, rfl⟩
  rw [← hz16]
  show RunW p e below s Z own_EL 55 390 (Q_rm0 Z q1 q2 q3 q4 p5 p6 cs h0 n0) (T15.setTop (mkF m 50 #[.val (.long q1), .second, .val (.long q2), .second, .val (.long q3), .second, .val (.long q4), .second, .val (.int p5), .val (.int p6), .val (.int z8), .val (.int z10), .val (.int z12), .val (.int z14), .val (.int z16), .unset, .unset, .unset, .unset, .unset, .unset, .unset, .unset, .unset] []))
  have gz4 : Good z16 ∧ ¬ (own_cs z16).length = 0 := by rw [hz16]; exact own_G4 _ _ _
  have ga4 := gz4.1
  refine RunW.go (fun _ k => XS.iload Xg15.here hx rfl (hb hby at_50) rfl  k) ?_
  show RunW p e below s Z own_EL 55 390 (Q_rm0 Z q1 q2 q3 q4 p5 p6 cs h0 n0) (T15.setTop (mkF m 52 #[.val (.long q1), .second, .val (.long q2), .second, .val (.long q3), .second, .val (.long q4), .second, .val (.int p5), .val (.int p6), .val (.int z8), .val (.int z10), .val (.int z12), .val (.int z14), .val (.int z16), .unset, .unset, .unset, .unset, .unset, .unset, .unset, .unset, .unset] [(.int p5)]))
  refine RunW.go (fun _ k => XS.iconst Xg15.here hx rfl (hb hby at_52) k) ?_
  show RunW p e below s Z own_EL 55 390 (Q_rm0 Z q1 q2 q3 q4 p5 p6 cs h0 n0) (T15.setTop (mkF m 53 #[.val (.long q1), .second, .val (.long q2), .second, .val (.long q3), .second, .val (.long q4), .second, .val (.int p5), .val (.int p6), .val (.int z8), .val (.int z10), .val (.int z12), .val (.int z14), .val (.int z16), .unset, .unset, .unset, .unset, .unset, .unset, .unset, .unset, .unset] [(.int (1 : Int32)), (.int p5)]))
  refine RunW.go (fun _ k => XS.iand Xg15.here hx rfl (hb hby at_53) rfl k) ?_
  show RunW p e below s Z own_EL 55 390 (Q_rm0 Z q1 q2 q3 q4 p5 p6 cs h0 n0) (T15.setTop (mkF m 54 #[.val (.long q1), .second, .val (.long q2), .second, .val (.long q3), .second, .val (.long q4), .second, .val (.int p5), .val (.int p6), .val (.int z8), .val (.int z10), .val (.int z12), .val (.int z14), .val (.int z16), .unset, .unset, .unset, .unset, .unset, .unset, .unset, .unset, .unset] [(.int (p5 &&& (1 : Int32)))]))
  have J18 : ∀ (w19 : Int32) (hw19 : w19 = (if ((p5 &&& (1 : Int32)) = (0 : Int32)) then (F_rm1_0 q3 q4 q3) else z8)) (T20 : State) (L20 : List Loc) (X20 : Stand p l e room_1 (s.setVm s.vm) m #[(.long q1), (.long q2), (.long q3), (.long q4), (.int p5), (.int p6)] below meth c T20 L20 0 0) (e20 : T20.heap = h0) (N20 : Fr n0 L20), RunW p e below s Z own_EL 55 390 (Q_rm0 Z q1 q2 q3 q4 p5 p6 cs h0 n0) (T20.setTop (mkF m 73 #[.val (.long q1), .second, .val (.long q2), .second, .val (.long q3), .second, .val (.long q4), .second, .val (.int p5), .val (.int p6), .val (.int z8), .val (.int z10), .val (.int z12), .val (.int z14), .val (.int z16), .unset, .unset, .unset, .unset, .unset, .unset, .unset, .unset, .unset] [(.int w19)])) := by
    intro w19 hw19 T20 L20 X20 e20 N20
    show RunW p e below s Z own_EL 55 390 (Q_rm0 Z q1 q2 q3 q4 p5 p6 cs h0 n0) (T20.setTop (mkF m 73 #[.val (.long q1), .second, .val (.long q2), .second, .val (.long q3), .second, .val (.long q4), .second, .val (.int p5), .val (.int p6), .val (.int z8), .val (.int z10), .val (.int z12), .val (.int z14), .val (.int z16), .unset, .unset, .unset, .unset, .unset, .unset, .unset, .unset, .unset] [(.int w19)]))
    refine RunW.go (fun _ k => XS.istore X20.here hx rfl (hb hby at_73) rfl (l' := #[.val (.long q1), .second, .val (.long q2), .second, .val (.long q3), .second, .val (.long q4), .second, .val (.int p5), .val (.int p6), .val (.int z8), .val (.int z10), .val (.int z12), .val (.int z14), .val (.int z16), .val (.int w19), .unset, .unset, .unset, .unset, .unset, .unset, .unset, .unset]) rfl k) ?_
    show RunW p e below s Z own_EL 55 390 (Q_rm0 Z q1 q2 q3 q4 p5 p6 cs h0 n0) (T20.setTop (mkF m 75 #[.val (.long q1), .second, .val (.long q2), .second, .val (.long q3), .second, .val (.long q4), .second, .val (.int p5), .val (.int p6), .val (.int z8), .val (.int z10), .val (.int z12), .val (.int z14), .val (.int z16), .val (.int w19), .unset, .unset, .unset, .unset, .unset, .unset, .unset, .unset] []))
    have gb0 : Good w19 := by rw [hw19]; split; exact own_G0 _ _ _; exact ga0
    refine RunW.go (fun _ k => XS.iload X20.here hx rfl (hb hby at_75) rfl  k) ?_
    show RunW p e below s Z own_EL 55 390 (Q_rm0 Z q1 q2 q3 q4 p5 p6 cs h0 n0) (T20.setTop (mkF m 77 #[.val (.long q1), .second, .val (.long q2), .second, .val (.long q3), .second, .val (.long q4), .second, .val (.int p5), .val (.int p6), .val (.int z8), .val (.int z10), .val (.int z12), .val (.int z14), .val (.int z16), .val (.int w19), .unset, .unset, .unset, .unset, .unset, .unset, .unset, .unset] [(.int p5)]))
    refine RunW.go (fun _ k => XS.iconst X20.here hx rfl (hb hby at_77) k) ?_
    show RunW p e below s Z own_EL 55 390 (Q_rm0 Z q1 q2 q3 q4 p5 p6 cs h0 n0) (T20.setTop (mkF m 78 #[.val (.long q1), .second, .val (.long q2), .second, .val (.long q3), .second, .val (.long q4), .second, .val (.int p5), .val (.int p6), .val (.int z8), .val (.int z10), .val (.int z12), .val (.int z14), .val (.int z16), .val (.int w19), .unset, .unset, .unset, .unset, .unset, .unset, .unset, .unset] [(.int (2 : Int32)), (.int p5)]))
    refine RunW.go (fun _ k => XS.iand X20.here hx rfl (hb hby at_78) rfl k) ?_
    show RunW p e below s Z own_EL 55 390 (Q_rm0 Z q1 q2 q3 q4 p5 p6 cs h0 n0) (T20.setTop (mkF m 79 #[.val (.long q1), .second, .val (.long q2), .second, .val (.long q3), .second, .val (.long q4), .second, .val (.int p5), .val (.int p6), .val (.int z8), .val (.int z10), .val (.int z12), .val (.int z14), .val (.int z16), .val (.int w19), .unset, .unset, .unset, .unset, .unset, .unset, .unset, .unset] [(.int (p5 &&& (2 : Int32)))]))
    have J22 : ∀ (w23 : Int32) (hw23 : w23 = (if ((p5 &&& (2 : Int32)) = (0 : Int32)) then (F_rm1_1 q3 q4 q3) else z10)) (T24 : State) (L24 : List Loc) (X24 : Stand p l e room_1 (s.setVm s.vm) m #[(.long q1), (.long q2), (.long q3), (.long q4), (.int p5), (.int p6)] below meth c T24 L24 0 0) (e24 : T24.heap = h0) (N24 : Fr n0 L24), RunW p e below s Z own_EL 55 390 (Q_rm0 Z q1 q2 q3 q4 p5 p6 cs h0 n0) (T24.setTop (mkF m 98 #[.val (.long q1), .second, .val (.long q2), .second, .val (.long q3), .second, .val (.long q4), .second, .val (.int p5), .val (.int p6), .val (.int z8), .val (.int z10), .val (.int z12), .val (.int z14), .val (.int z16), .val (.int w19), .unset, .unset, .unset, .unset, .unset, .unset, .unset, .unset] [(.int w23)])) := by
      intro w23 hw23 T24 L24 X24 e24 N24
      show RunW p e below s Z own_EL 55 390 (Q_rm0 Z q1 q2 q3 q4 p5 p6 cs h0 n0) (T24.setTop (mkF m 98 #[.val (.long q1), .second, .val (.long q2), .second, .val (.long q3), .second, .val (.long q4), .second, .val (.int p5), .val (.int p6), .val (.int z8), .val (.int z10), .val (.int z12), .val (.int z14), .val (.int z16), .val (.int w19), .unset, .unset, .unset, .unset, .unset, .unset, .unset, .unset] [(.int w23)]))
      refine RunW.go (fun _ k => XS.istore X24.here hx rfl (hb hby at_98) rfl (l' := #[.val (.long q1), .second, .val (.long q2), .second, .val (.long q3), .second, .val (.long q4), .second, .val (.int p5), .val (.int p6), .val (.int z8), .val (.int z10), .val (.int z12), .val (.int z14), .val (.int z16), .val (.int w19), .val (.int w23), .unset, .unset, .unset, .unset, .unset, .unset, .unset]) rfl k) ?_
      show RunW p e below s Z own_EL 55 390 (Q_rm0 Z q1 q2 q3 q4 p5 p6 cs h0 n0) (T24.setTop (mkF m 100 #[.val (.long q1), .second, .val (.long q2), .second, .val (.long q3), .second, .val (.long q4), .second, .val (.int p5), .val (.int p6), .val (.int z8), .val (.int z10), .val (.int z12), .val (.int z14), .val (.int z16), .val (.int w19), .val (.int w23), .unset, .unset, .unset, .unset, .unset, .unset, .unset] []))
      have gy1 : Good w23 ∧ ¬ (own_cs w23).length = 0 := by rw [hw23]; split; exact own_G1 _ _ _; exact gz1
      have gb1 := gy1.1
      refine RunW.go (fun _ k => XS.iload X24.here hx rfl (hb hby at_100) rfl  k) ?_
      show RunW p e below s Z own_EL 55 390 (Q_rm0 Z q1 q2 q3 q4 p5 p6 cs h0 n0) (T24.setTop (mkF m 102 #[.val (.long q1), .second, .val (.long q2), .second, .val (.long q3), .second, .val (.long q4), .second, .val (.int p5), .val (.int p6), .val (.int z8), .val (.int z10), .val (.int z12), .val (.int z14), .val (.int z16), .val (.int w19), .val (.int w23), .unset, .unset, .unset, .unset, .unset, .unset, .unset] [(.int p5)]))
      refine RunW.go (fun _ k => XS.iconst X24.here hx rfl (hb hby at_102) k) ?_
      show RunW p e below s Z own_EL 55 390 (Q_rm0 Z q1 q2 q3 q4 p5 p6 cs h0 n0) (T24.setTop (mkF m 103 #[.val (.long q1), .second, .val (.long q2), .second, .val (.long q3), .second, .val (.long q4), .second, .val (.int p5), .val (.int p6), .val (.int z8), .val (.int z10), .val (.int z12), .val (.int z14), .val (.int z16), .val (.int w19), .val (.int w23), .unset, .unset, .unset, .unset, .unset, .unset, .unset] [(.int (4 : Int32)), (.int p5)]))
      refine RunW.go (fun _ k => XS.iand X24.here hx rfl (hb hby at_103) rfl k) ?_
      show RunW p e below s Z own_EL 55 390 (Q_rm0 Z q1 q2 q3 q4 p5 p6 cs h0 n0) (T24.setTop (mkF m 104 #[.val (.long q1), .second, .val (.long q2), .second, .val (.long q3), .second, .val (.long q4), .second, .val (.int p5), .val (.int p6), .val (.int z8), .val (.int z10), .val (.int z12), .val (.int z14), .val (.int z16), .val (.int w19), .val (.int w23), .unset, .unset, .unset, .unset, .unset, .unset, .unset] [(.int (p5 &&& (4 : Int32)))]))
      have J26 : ∀ (w27 : Int32) (hw27 : w27 = (if ((p5 &&& (4 : Int32)) = (0 : Int32)) then (F_rm1_2 q3 q4 q3) else z12)) (T28 : State) (L28 : List Loc) (X28 : Stand p l e room_1 (s.setVm s.vm) m #[(.long q1), (.long q2), (.long q3), (.long q4), (.int p5), (.int p6)] below meth c T28 L28 0 0) (e28 : T28.heap = h0) (N28 : Fr n0 L28), RunW p e below s Z own_EL 55 390 (Q_rm0 Z q1 q2 q3 q4 p5 p6 cs h0 n0) (T28.setTop (mkF m 123 #[.val (.long q1), .second, .val (.long q2), .second, .val (.long q3), .second, .val (.long q4), .second, .val (.int p5), .val (.int p6), .val (.int z8), .val (.int z10), .val (.int z12), .val (.int z14), .val (.int z16), .val (.int w19), .val (.int w23), .unset, .unset, .unset, .unset, .unset, .unset, .unset] [(.int w27)])) := by
        intro w27 hw27 T28 L28 X28 e28 N28
        show RunW p e below s Z own_EL 55 390 (Q_rm0 Z q1 q2 q3 q4 p5 p6 cs h0 n0) (T28.setTop (mkF m 123 #[.val (.long q1), .second, .val (.long q2), .second, .val (.long q3), .second, .val (.long q4), .second, .val (.int p5), .val (.int p6), .val (.int z8), .val (.int z10), .val (.int z12), .val (.int z14), .val (.int z16), .val (.int w19), .val (.int w23), .unset, .unset, .unset, .unset, .unset, .unset, .unset] [(.int w27)]))
        refine RunW.go (fun _ k => XS.istore X28.here hx rfl (hb hby at_123) rfl (l' := #[.val (.long q1), .second, .val (.long q2), .second, .val (.long q3), .second, .val (.long q4), .second, .val (.int p5), .val (.int p6), .val (.int z8), .val (.int z10), .val (.int z12), .val (.int z14), .val (.int z16), .val (.int w19), .val (.int w23), .val (.int w27), .unset, .unset, .unset, .unset, .unset, .unset]) rfl k) ?_
        show RunW p e below s Z own_EL 55 390 (Q_rm0 Z q1 q2 q3 q4 p5 p6 cs h0 n0) (T28.setTop (mkF m 125 #[.val (.long q1), .second, .val (.long q2), .second, .val (.long q3), .second, .val (.long q4), .second, .val (.int p5), .val (.int p6), .val (.int z8), .val (.int z10), .val (.int z12), .val (.int z14), .val (.int z16), .val (.int w19), .val (.int w23), .val (.int w27), .unset, .unset, .unset, .unset, .unset, .unset] []))
        have gb2 : Good w27 := by rw [hw27]; split; exact own_G2 _ _ _; exact ga2
        refine RunW.go (fun _ k => XS.iload X28.here hx rfl (hb hby at_125) rfl  k) ?_
        show RunW p e below s Z own_EL 55 390 (Q_rm0 Z q1 q2 q3 q4 p5 p6 cs h0 n0) (T28.setTop (mkF m 127 #[.val (.long q1), .second, .val (.long q2), .second, .val (.long q3), .second, .val (.long q4), .second, .val (.int p5), .val (.int p6), .val (.int z8), .val (.int z10), .val (.int z12), .val (.int z14), .val (.int z16), .val (.int w19), .val (.int w23), .val (.int w27), .unset, .unset, .unset, .unset, .unset, .unset] [(.int p5)]))
        refine RunW.go (fun _ k => XS.bipush X28.here hx rfl (hb hby at_127) k) ?_
        show RunW p e below s Z own_EL 55 390 (Q_rm0 Z q1 q2 q3 q4 p5 p6 cs h0 n0) (T28.setTop (mkF m 129 #[.val (.long q1), .second, .val (.long q2), .second, .val (.long q3), .second, .val (.long q4), .second, .val (.int p5), .val (.int p6), .val (.int z8), .val (.int z10), .val (.int z12), .val (.int z14), .val (.int z16), .val (.int w19), .val (.int w23), .val (.int w27), .unset, .unset, .unset, .unset, .unset, .unset] [(.int (8 : Int32)), (.int p5)]))
        refine RunW.go (fun _ k => XS.iand X28.here hx rfl (hb hby at_129) rfl k) ?_
        show RunW p e below s Z own_EL 55 390 (Q_rm0 Z q1 q2 q3 q4 p5 p6 cs h0 n0) (T28.setTop (mkF m 130 #[.val (.long q1), .second, .val (.long q2), .second, .val (.long q3), .second, .val (.long q4), .second, .val (.int p5), .val (.int p6), .val (.int z8), .val (.int z10), .val (.int z12), .val (.int z14), .val (.int z16), .val (.int w19), .val (.int w23), .val (.int w27), .unset, .unset, .unset, .unset, .unset, .unset] [(.int (p5 &&& (8 : Int32)))]))
        have J30 : ∀ (w31 : Int32) (hw31 : w31 = (if ((p5 &&& (8 : Int32)) = (0 : Int32)) then (F_rm1_3 q3 q4 q3) else z14)) (T32 : State) (L32 : List Loc) (X32 : Stand p l e room_1 (s.setVm s.vm) m #[(.long q1), (.long q2), (.long q3), (.long q4), (.int p5), (.int p6)] below meth c T32 L32 0 0) (e32 : T32.heap = h0) (N32 : Fr n0 L32), RunW p e below s Z own_EL 55 390 (Q_rm0 Z q1 q2 q3 q4 p5 p6 cs h0 n0) (T32.setTop (mkF m 149 #[.val (.long q1), .second, .val (.long q2), .second, .val (.long q3), .second, .val (.long q4), .second, .val (.int p5), .val (.int p6), .val (.int z8), .val (.int z10), .val (.int z12), .val (.int z14), .val (.int z16), .val (.int w19), .val (.int w23), .val (.int w27), .unset, .unset, .unset, .unset, .unset, .unset] [(.int w31)])) := by
          intro w31 hw31 T32 L32 X32 e32 N32
          show RunW p e below s Z own_EL 55 390 (Q_rm0 Z q1 q2 q3 q4 p5 p6 cs h0 n0) (T32.setTop (mkF m 149 #[.val (.long q1), .second, .val (.long q2), .second, .val (.long q3), .second, .val (.long q4), .second, .val (.int p5), .val (.int p6), .val (.int z8), .val (.int z10), .val (.int z12), .val (.int z14), .val (.int z16), .val (.int w19), .val (.int w23), .val (.int w27), .unset, .unset, .unset, .unset, .unset, .unset] [(.int w31)]))
          refine RunW.go (fun _ k => XS.istore X32.here hx rfl (hb hby at_149) rfl (l' := #[.val (.long q1), .second, .val (.long q2), .second, .val (.long q3), .second, .val (.long q4), .second, .val (.int p5), .val (.int p6), .val (.int z8), .val (.int z10), .val (.int z12), .val (.int z14), .val (.int z16), .val (.int w19), .val (.int w23), .val (.int w27), .val (.int w31), .unset, .unset, .unset, .unset, .unset]) rfl k) ?_
          show RunW p e below s Z own_EL 55 390 (Q_rm0 Z q1 q2 q3 q4 p5 p6 cs h0 n0) (T32.setTop (mkF m 151 #[.val (.long q1), .second, .val (.long q2), .second, .val (.long q3), .second, .val (.long q4), .second, .val (.int p5), .val (.int p6), .val (.int z8), .val (.int z10), .val (.int z12), .val (.int z14), .val (.int z16), .val (.int w19), .val (.int w23), .val (.int w27), .val (.int w31), .unset, .unset, .unset, .unset, .unset] []))
          have gb3 : Good w31 := by rw [hw31]; split; exact own_G3 _ _ _; exact ga3
          refine RunW.go (fun _ k => XS.iload X32.here hx rfl (hb hby at_151) rfl  k) ?_
          show RunW p e below s Z own_EL 55 390 (Q_rm0 Z q1 q2 q3 q4 p5 p6 cs h0 n0) (T32.setTop (mkF m 153 #[.val (.long q1), .second, .val (.long q2), .second, .val (.long q3), .second, .val (.long q4), .second, .val (.int p5), .val (.int p6), .val (.int z8), .val (.int z10), .val (.int z12), .val (.int z14), .val (.int z16), .val (.int w19), .val (.int w23), .val (.int w27), .val (.int w31), .unset, .unset, .unset, .unset, .unset] [(.int p5)]))
          refine RunW.go (fun _ k => XS.bipush X32.here hx rfl (hb hby at_153) k) ?_
          show RunW p e below s Z own_EL 55 390 (Q_rm0 Z q1 q2 q3 q4 p5 p6 cs h0 n0) (T32.setTop (mkF m 155 #[.val (.long q1), .second, .val (.long q2), .second, .val (.long q3), .second, .val (.long q4), .second, .val (.int p5), .val (.int p6), .val (.int z8), .val (.int z10), .val (.int z12), .val (.int z14), .val (.int z16), .val (.int w19), .val (.int w23), .val (.int w27), .val (.int w31), .unset, .unset, .unset, .unset, .unset] [(.int (16 : Int32)), (.int p5)]))
          refine RunW.go (fun _ k => XS.iand X32.here hx rfl (hb hby at_155) rfl k) ?_
          show RunW p e below s Z own_EL 55 390 (Q_rm0 Z q1 q2 q3 q4 p5 p6 cs h0 n0) (T32.setTop (mkF m 156 #[.val (.long q1), .second, .val (.long q2), .second, .val (.long q3), .second, .val (.long q4), .second, .val (.int p5), .val (.int p6), .val (.int z8), .val (.int z10), .val (.int z12), .val (.int z14), .val (.int z16), .val (.int w19), .val (.int w23), .val (.int w27), .val (.int w31), .unset, .unset, .unset, .unset, .unset] [(.int (p5 &&& (16 : Int32)))]))
          have J34 : ∀ (w35 : Int32) (hw35 : w35 = (if ((p5 &&& (16 : Int32)) = (0 : Int32)) then (F_rm1_4 q3 q4 q3) else z16)) (T36 : State) (L36 : List Loc) (X36 : Stand p l e room_1 (s.setVm s.vm) m #[(.long q1), (.long q2), (.long q3), (.long q4), (.int p5), (.int p6)] below meth c T36 L36 0 0) (e36 : T36.heap = h0) (N36 : Fr n0 L36), RunW p e below s Z own_EL 55 390 (Q_rm0 Z q1 q2 q3 q4 p5 p6 cs h0 n0) (T36.setTop (mkF m 175 #[.val (.long q1), .second, .val (.long q2), .second, .val (.long q3), .second, .val (.long q4), .second, .val (.int p5), .val (.int p6), .val (.int z8), .val (.int z10), .val (.int z12), .val (.int z14), .val (.int z16), .val (.int w19), .val (.int w23), .val (.int w27), .val (.int w31), .unset, .unset, .unset, .unset, .unset] [(.int w35)])) := by
            intro w35 hw35 T36 L36 X36 e36 N36
            show RunW p e below s Z own_EL 55 390 (Q_rm0 Z q1 q2 q3 q4 p5 p6 cs h0 n0) (T36.setTop (mkF m 175 #[.val (.long q1), .second, .val (.long q2), .second, .val (.long q3), .second, .val (.long q4), .second, .val (.int p5), .val (.int p6), .val (.int z8), .val (.int z10), .val (.int z12), .val (.int z14), .val (.int z16), .val (.int w19), .val (.int w23), .val (.int w27), .val (.int w31), .unset, .unset, .unset, .unset, .unset] [(.int w35)]))
            refine RunW.go (fun _ k => XS.istore X36.here hx rfl (hb hby at_175) rfl (l' := #[.val (.long q1), .second, .val (.long q2), .second, .val (.long q3), .second, .val (.long q4), .second, .val (.int p5), .val (.int p6), .val (.int z8), .val (.int z10), .val (.int z12), .val (.int z14), .val (.int z16), .val (.int w19), .val (.int w23), .val (.int w27), .val (.int w31), .val (.int w35), .unset, .unset, .unset, .unset]) rfl k) ?_
            show RunW p e below s Z own_EL 55 390 (Q_rm0 Z q1 q2 q3 q4 p5 p6 cs h0 n0) (T36.setTop (mkF m 177 #[.val (.long q1), .second, .val (.long q2), .second, .val (.long q3), .second, .val (.long q4), .second, .val (.int p5), .val (.int p6), .val (.int z8), .val (.int z10), .val (.int z12), .val (.int z14), .val (.int z16), .val (.int w19), .val (.int w23), .val (.int w27), .val (.int w31), .val (.int w35), .unset, .unset, .unset, .unset] []))
            have gy4 : Good w35 ∧ ¬ (own_cs w35).length = 0 := by rw [hw35]; split; exact own_G4 _ _ _; exact gz4
            have gb4 := gy4.1
            obtain ⟨T37, h37, X37, e37, E37, A37, D37, -, st37⟩ := newO X36 hx hZ hown (hw _ (List.mem_of_getElem? (i := 6) rfl)) (hw _ (List.mem_of_getElem? (i := 7) rfl)) (hw _ (List.mem_of_getElem? (i := 8) rfl)) e36 (g := (mkF m 177 #[.val (.long q1), .second, .val (.long q2), .second, .val (.long q3), .second, .val (.long q4), .second, .val (.int p5), .val (.int p6), .val (.int z8), .val (.int z10), .val (.int z12), .val (.int z14), .val (.int z16), .val (.int w19), .val (.int w23), .val (.int w27), .val (.int w31), .val (.int w35), .unset, .unset, .unset, .unset] [])) rfl (hb hby at_177) (by decide) (by decide)
            obtain ⟨b37, g37⟩ : ∃ z, z = h0.size := ⟨_, rfl⟩
            rw [← g37] at A37 D37 st37
            have C38 := C0.trans (CHr.ext E37 C0.1)
            have hk := Nat.le_trans hk E37.1
            have g_b37 : n0 ≤ b37 := Nat.le_trans Z0 (Nat.le_of_eq g37.symm)
            have Z37 : n0 ≤ h37.size := Nat.le_trans Z0 E37.1
            have fx39 : Fld Z h37 b37 "com/example/subjectory/subjectory/heading/ClassLink" "scheme" "Ljava/lang/String;" .null := D37 (Or.inr (hw _ (List.mem_of_getElem? (i := 59) rfl))) (ty := (.object "java/lang/String")) (by decide)
            have fx40 : Fld Z h37 b37 "com/example/subjectory/subjectory/heading/ClassLink" "number" "Ljava/lang/String;" .null := D37 (Or.inr (hw _ (List.mem_of_getElem? (i := 61) rfl))) (ty := (.object "java/lang/String")) (by decide)
            have fx41 : Fld Z h37 b37 "com/example/subjectory/subjectory/heading/ClassLink" "caption" "Ljava/lang/String;" .null := D37 (Or.inr (hw _ (List.mem_of_getElem? (i := 64) rfl))) (ty := (.object "java/lang/String")) (by decide)
            have fx42 : Fld Z h37 b37 "com/example/subjectory/subjectory/heading/ClassLink" "tag" "Ljava/lang/String;" .null := D37 (Or.inr (hw _ (List.mem_of_getElem? (i := 67) rfl))) (ty := (.object "java/lang/String")) (by decide)
            have fx43 : Fld Z h37 b37 "com/example/subjectory/subjectory/heading/ClassLink" "term" "Ljava/lang/String;" .null := D37 (Or.inr (hw _ (List.mem_of_getElem? (i := 69) rfl))) (ty := (.object "java/lang/String")) (by decide)
            refine RunW.go st37 ?_
            show RunW p e below s Z own_EL 55 390 (Q_rm0 Z q1 q2 q3 q4 p5 p6 cs h0 n0) (T37.setTop (mkF m 180 #[.val (.long q1), .second, .val (.long q2), .second, .val (.long q3), .second, .val (.long q4), .second, .val (.int p5), .val (.int p6), .val (.int z8), .val (.int z10), .val (.int z12), .val (.int z14), .val (.int z16), .val (.int w19), .val (.int w23), .val (.int w27), .val (.int w31), .val (.int w35), .unset, .unset, .unset, .unset] [(.ref b37)]))
            refine RunW.go (fun _ k => XS.dup X37.here hx rfl (hb hby at_180) rfl rfl k) ?_
            show RunW p e below s Z own_EL 55 390 (Q_rm0 Z q1 q2 q3 q4 p5 p6 cs h0 n0) (T37.setTop (mkF m 181 #[.val (.long q1), .second, .val (.long q2), .second, .val (.long q3), .second, .val (.long q4), .second, .val (.int p5), .val (.int p6), .val (.int z8), .val (.int z10), .val (.int z12), .val (.int z14), .val (.int z16), .val (.int w19), .val (.int w23), .val (.int w27), .val (.int w31), .val (.int w35), .unset, .unset, .unset, .unset] [(.ref b37), (.ref b37)]))
            refine RunW.go (fun _ k => XS.iload X37.here hx rfl (hb hby at_181) rfl  k) ?_
            show RunW p e below s Z own_EL 55 390 (Q_rm0 Z q1 q2 q3 q4 p5 p6 cs h0 n0) (T37.setTop (mkF m 183 #[.val (.long q1), .second, .val (.long q2), .second, .val (.long q3), .second, .val (.long q4), .second, .val (.int p5), .val (.int p6), .val (.int z8), .val (.int z10), .val (.int z12), .val (.int z14), .val (.int z16), .val (.int w19), .val (.int w23), .val (.int w27), .val (.int w31), .val (.int w35), .unset, .unset, .unset, .unset] [(.int z8), (.ref b37), (.ref b37)]))
            have fx45 := (S_String_COMPACT_STRINGS.ext E37)
            obtain ⟨_, _, ⟨T44, L44, k44, n44⟩, -, X44, S44, G44, ⟨Lc44, hQ44, l44, y44, z44, C44q⟩, st44⟩ := callSS X37 hx (y := (⟨"com/example/subjectory/subjectory/heading/ClassLinkEqualsPinLaw", "str", "(I)Ljava/lang/String;"⟩ : MethodName)) hown (mvT hZ (hw _ (List.mem_of_getElem? (i := 9) rfl))) (mvT hZ (hw _ (List.mem_of_getElem? (i := 10) rfl))) (mvT hZ (hw _ (List.mem_of_getElem? (i := 2) rfl))) (mvT hZ (hw _ (List.mem_of_getElem? (i := 11) rfl))) (by decide) (backOfSH (s := s) (W := 2) (rm2 l Z a0 hw [] z8 cs h37 n0 Z37 fx45 hcs) hZ (hw _ (List.mem_of_getElem? (i := 11) rfl)) (hw _ (List.mem_of_getElem? (i := 2) rfl)) (by decide) (by decide) (own_ew hw) C38.1) (g := (mkF m 183 #[.val (.long q1), .second, .val (.long q2), .second, .val (.long q3), .second, .val (.long q4), .second, .val (.int p5), .val (.int p6), .val (.int z8), .val (.int z10), .val (.int z12), .val (.int z14), .val (.int z16), .val (.int w19), .val (.int w23), .val (.int w27), .val (.int w31), .val (.int w35), .unset, .unset, .unset, .unset] [(.int z8), (.ref b37), (.ref b37)])) rfl (by rw [hml]; rfl) (argsL := [(.int z8)]) (rest := [(.ref b37), (.ref b37)]) (lenOf pd_9 rfl) rfl (by show 2 * 0 + _ ≤ _; exact Nat.le_of_eq rfl) (hb hby at_183) (fun _ _ => ⟨rfl, e37, (by decide : 1 + 3 ≤ _), (by decide : 5 + 12 ≤ _)⟩)
            dsimp only [Pt.U, Pt.locs, Pt.cells, Pt.slots] at X44 l44 y44 z44 st44 hQ44 S44 G44 C44q
            subst l44 y44 z44
            have hS := foldS hS (show _ ≤ T37.heap.size from by rw [e37]; exact hk) S44 G44
            have hown : (s.setVm T44.vm).vm.findClass "com/example/subjectory/subjectory/heading/ClassLinkEqualsPinLaw" = some m.cls := by rw [show (s.setVm T44.vm).vm = T44.vm from rfl, S44.1.alike.findClass]; exact hown
            have hZ : Z.Warmed39 (s.setVm T44.vm).vm := State.Warmed39.trans (t := s.setVm s.vm) hZ S44.1
            have hk := Nat.le_refl T44.heap.size
            have C46 := C38.trans C44q
            have X44 : Stand p l e room_1 (s.setVm T44.vm) m #[(.long q1), (.long q2), (.long q3), (.long q4), (.int p5), (.int p6)] below meth c T44 _ _ _ := X44
            obtain ⟨b47, rfl, N44q, K44q, fq44_0⟩ := hQ44
            have N44 := Fr.app N36 N44q
            have Z44 : n0 ≤ T44.heap.size := Nat.le_trans Z37 K44q.1
            obtain ⟨Lg44, Xg44, Ng44⟩ := Stand_gen X44 N44
            refine RunW.tr st44 ?_
            show RunW p e below s Z own_EL 55 390 (Q_rm0 Z q1 q2 q3 q4 p5 p6 cs h0 n0) (T44.setTop (mkF m 186 #[.val (.long q1), .second, .val (.long q2), .second, .val (.long q3), .second, .val (.long q4), .second, .val (.int p5), .val (.int p6), .val (.int z8), .val (.int z10), .val (.int z12), .val (.int z14), .val (.int z16), .val (.int w19), .val (.int w23), .val (.int w27), .val (.int w31), .val (.int w35), .unset, .unset, .unset, .unset] [(.ref b47), (.ref b37), (.ref b37)]))
            refine RunW.go (fun _ k => XS.iload Xg44.here hx rfl (hb hby at_186) rfl  k) ?_
            show RunW p e below s Z own_EL 55 390 (Q_rm0 Z q1 q2 q3 q4 p5 p6 cs h0 n0) (T44.setTop (mkF m 188 #[.val (.long q1), .second, .val (.long q2), .second, .val (.long q3), .second, .val (.long q4), .second, .val (.int p5), .val (.int p6), .val (.int z8), .val (.int z10), .val (.int z12), .val (.int z14), .val (.int z16), .val (.int w19), .val (.int w23), .val (.int w27), .val (.int w31), .val (.int w35), .unset, .unset, .unset, .unset] [(.int z10), (.ref b47), (.ref b37), (.ref b37)]))
            have fx49 := (Sta.keep fx45 K44q all0)
            obtain ⟨_, _, ⟨T48, L48, k48, n48⟩, -, X48, S48, G48, ⟨Lc48, hQ48, l48, y48, z48, C48q⟩, st48⟩ := callSS Xg44 hx (y := (⟨"com/example/subjectory/subjectory/heading/ClassLinkEqualsPinLaw", "str", "(I)Ljava/lang/String;"⟩ : MethodName)) hown (mvT hZ (hw _ (List.mem_of_getElem? (i := 9) rfl))) (mvT hZ (hw _ (List.mem_of_getElem? (i := 10) rfl))) (mvT hZ (hw _ (List.mem_of_getElem? (i := 2) rfl))) (mvT hZ (hw _ (List.mem_of_getElem? (i := 11) rfl))) (by decide) (backOfSH (s := s) (W := 3) (rm2 l Z a0 hw [] z10 cs T44.heap n0 Z44 fx49 hcs) hZ (hw _ (List.mem_of_getElem? (i := 11) rfl)) (hw _ (List.mem_of_getElem? (i := 2) rfl)) (by decide) (by decide) (own_ew hw) C46.1) (g := (mkF m 188 #[.val (.long q1), .second, .val (.long q2), .second, .val (.long q3), .second, .val (.long q4), .second, .val (.int p5), .val (.int p6), .val (.int z8), .val (.int z10), .val (.int z12), .val (.int z14), .val (.int z16), .val (.int w19), .val (.int w23), .val (.int w27), .val (.int w31), .val (.int w35), .unset, .unset, .unset, .unset] [(.int z10), (.ref b47), (.ref b37), (.ref b37)])) rfl (by rw [hml]; rfl) (argsL := [(.int z10)]) (rest := [(.ref b47), (.ref b37), (.ref b37)]) (lenOf pd_9 rfl) rfl (by show 2 * 0 + _ ≤ _; exact Nat.le_of_eq rfl) (hb hby at_188) (fun _ _ => ⟨rfl, rfl, (by decide : 4 + 3 ≤ _), (by decide : 17 + 12 ≤ _)⟩)
            dsimp only [Pt.U, Pt.locs, Pt.cells, Pt.slots] at X48 l48 y48 z48 st48 hQ48 S48 G48 C48q
            subst l48 y48 z48
            have hS := foldS hS (show _ ≤ T44.heap.size from hk) S48 G48
            have hown : (s.setVm T48.vm).vm.findClass "com/example/subjectory/subjectory/heading/ClassLinkEqualsPinLaw" = some m.cls := by rw [show (s.setVm T48.vm).vm = T48.vm from rfl, S48.1.alike.findClass]; exact hown
            have hZ : Z.Warmed39 (s.setVm T48.vm).vm := State.Warmed39.trans (t := s.setVm T44.vm) hZ S48.1
            have hk := Nat.le_refl T48.heap.size
            have C50 := C46.trans C48q
            have X48 : Stand p l e room_1 (s.setVm T48.vm) m #[(.long q1), (.long q2), (.long q3), (.long q4), (.int p5), (.int p6)] below meth c T48 _ _ _ := X48
            obtain ⟨b51, rfl, N48q, K48q, fq48_0⟩ := hQ48
            have N48 := Fr.app Ng44 N48q
            have Z48 : n0 ≤ T48.heap.size := Nat.le_trans Z44 K48q.1
            obtain ⟨Lg48, Xg48, Ng48⟩ := Stand_gen X48 N48
            refine RunW.tr st48 ?_
            show RunW p e below s Z own_EL 55 390 (Q_rm0 Z q1 q2 q3 q4 p5 p6 cs h0 n0) (T48.setTop (mkF m 191 #[.val (.long q1), .second, .val (.long q2), .second, .val (.long q3), .second, .val (.long q4), .second, .val (.int p5), .val (.int p6), .val (.int z8), .val (.int z10), .val (.int z12), .val (.int z14), .val (.int z16), .val (.int w19), .val (.int w23), .val (.int w27), .val (.int w31), .val (.int w35), .unset, .unset, .unset, .unset] [(.ref b51), (.ref b47), (.ref b37), (.ref b37)]))
            refine RunW.go (fun _ k => XS.iload Xg48.here hx rfl (hb hby at_191) rfl  k) ?_
            show RunW p e below s Z own_EL 55 390 (Q_rm0 Z q1 q2 q3 q4 p5 p6 cs h0 n0) (T48.setTop (mkF m 193 #[.val (.long q1), .second, .val (.long q2), .second, .val (.long q3), .second, .val (.long q4), .second, .val (.int p5), .val (.int p6), .val (.int z8), .val (.int z10), .val (.int z12), .val (.int z14), .val (.int z16), .val (.int w19), .val (.int w23), .val (.int w27), .val (.int w31), .val (.int w35), .unset, .unset, .unset, .unset] [(.int z12), (.ref b51), (.ref b47), (.ref b37), (.ref b37)]))
            have fx53 := (Sta.keep fx49 K48q all0)
            obtain ⟨_, _, ⟨T52, L52, k52, n52⟩, -, X52, S52, G52, ⟨Lc52, hQ52, l52, y52, z52, C52q⟩, st52⟩ := callSS Xg48 hx (y := (⟨"com/example/subjectory/subjectory/heading/ClassLinkEqualsPinLaw", "str", "(I)Ljava/lang/String;"⟩ : MethodName)) hown (mvT hZ (hw _ (List.mem_of_getElem? (i := 9) rfl))) (mvT hZ (hw _ (List.mem_of_getElem? (i := 10) rfl))) (mvT hZ (hw _ (List.mem_of_getElem? (i := 2) rfl))) (mvT hZ (hw _ (List.mem_of_getElem? (i := 11) rfl))) (by decide) (backOfSH (s := s) (W := 4) (rm2 l Z a0 hw [] z12 cs T48.heap n0 Z48 fx53 hcs) hZ (hw _ (List.mem_of_getElem? (i := 11) rfl)) (hw _ (List.mem_of_getElem? (i := 2) rfl)) (by decide) (by decide) (own_ew hw) C50.1) (g := (mkF m 193 #[.val (.long q1), .second, .val (.long q2), .second, .val (.long q3), .second, .val (.long q4), .second, .val (.int p5), .val (.int p6), .val (.int z8), .val (.int z10), .val (.int z12), .val (.int z14), .val (.int z16), .val (.int w19), .val (.int w23), .val (.int w27), .val (.int w31), .val (.int w35), .unset, .unset, .unset, .unset] [(.int z12), (.ref b51), (.ref b47), (.ref b37), (.ref b37)])) rfl (by rw [hml]; rfl) (argsL := [(.int z12)]) (rest := [(.ref b51), (.ref b47), (.ref b37), (.ref b37)]) (lenOf pd_9 rfl) rfl (by show 2 * 0 + _ ≤ _; exact Nat.le_of_eq rfl) (hb hby at_193) (fun _ _ => ⟨rfl, rfl, (by decide : 7 + 3 ≤ _), (by decide : 29 + 12 ≤ _)⟩)
            dsimp only [Pt.U, Pt.locs, Pt.cells, Pt.slots] at X52 l52 y52 z52 st52 hQ52 S52 G52 C52q
            subst l52 y52 z52
            have hS := foldS hS (show _ ≤ T48.heap.size from hk) S52 G52
            have hown : (s.setVm T52.vm).vm.findClass "com/example/subjectory/subjectory/heading/ClassLinkEqualsPinLaw" = some m.cls := by rw [show (s.setVm T52.vm).vm = T52.vm from rfl, S52.1.alike.findClass]; exact hown
            have hZ : Z.Warmed39 (s.setVm T52.vm).vm := State.Warmed39.trans (t := s.setVm T48.vm) hZ S52.1
            have hk := Nat.le_refl T52.heap.size
            have C54 := C50.trans C52q
            have X52 : Stand p l e room_1 (s.setVm T52.vm) m #[(.long q1), (.long q2), (.long q3), (.long q4), (.int p5), (.int p6)] below meth c T52 _ _ _ := X52
            obtain ⟨b55, rfl, N52q, K52q, fq52_0⟩ := hQ52
            have N52 := Fr.app Ng48 N52q
            have Z52 : n0 ≤ T52.heap.size := Nat.le_trans Z48 K52q.1
            obtain ⟨Lg52, Xg52, Ng52⟩ := Stand_gen X52 N52
            refine RunW.tr st52 ?_
            show RunW p e below s Z own_EL 55 390 (Q_rm0 Z q1 q2 q3 q4 p5 p6 cs h0 n0) (T52.setTop (mkF m 196 #[.val (.long q1), .second, .val (.long q2), .second, .val (.long q3), .second, .val (.long q4), .second, .val (.int p5), .val (.int p6), .val (.int z8), .val (.int z10), .val (.int z12), .val (.int z14), .val (.int z16), .val (.int w19), .val (.int w23), .val (.int w27), .val (.int w31), .val (.int w35), .unset, .unset, .unset, .unset] [(.ref b55), (.ref b51), (.ref b47), (.ref b37), (.ref b37)]))
            refine RunW.go (fun _ k => XS.iload Xg52.here hx rfl (hb hby at_196) rfl  k) ?_
            show RunW p e below s Z own_EL 55 390 (Q_rm0 Z q1 q2 q3 q4 p5 p6 cs h0 n0) (T52.setTop (mkF m 198 #[.val (.long q1), .second, .val (.long q2), .second, .val (.long q3), .second, .val (.long q4), .second, .val (.int p5), .val (.int p6), .val (.int z8), .val (.int z10), .val (.int z12), .val (.int z14), .val (.int z16), .val (.int w19), .val (.int w23), .val (.int w27), .val (.int w31), .val (.int w35), .unset, .unset, .unset, .unset] [(.int z14), (.ref b55), (.ref b51), (.ref b47), (.ref b37), (.ref b37)]))
            have fx57 := (Sta.keep fx53 K52q all0)
            obtain ⟨_, _, ⟨T56, L56, k56, n56⟩, -, X56, S56, G56, ⟨Lc56, hQ56, l56, y56, z56, C56q⟩, st56⟩ := callSS Xg52 hx (y := (⟨"com/example/subjectory/subjectory/heading/ClassLinkEqualsPinLaw", "str", "(I)Ljava/lang/String;"⟩ : MethodName)) hown (mvT hZ (hw _ (List.mem_of_getElem? (i := 9) rfl))) (mvT hZ (hw _ (List.mem_of_getElem? (i := 10) rfl))) (mvT hZ (hw _ (List.mem_of_getElem? (i := 2) rfl))) (mvT hZ (hw _ (List.mem_of_getElem? (i := 11) rfl))) (by decide) (backOfSH (s := s) (W := 5) (rm2 l Z a0 hw [] z14 cs T52.heap n0 Z52 fx57 hcs) hZ (hw _ (List.mem_of_getElem? (i := 11) rfl)) (hw _ (List.mem_of_getElem? (i := 2) rfl)) (by decide) (by decide) (own_ew hw) C54.1) (g := (mkF m 198 #[.val (.long q1), .second, .val (.long q2), .second, .val (.long q3), .second, .val (.long q4), .second, .val (.int p5), .val (.int p6), .val (.int z8), .val (.int z10), .val (.int z12), .val (.int z14), .val (.int z16), .val (.int w19), .val (.int w23), .val (.int w27), .val (.int w31), .val (.int w35), .unset, .unset, .unset, .unset] [(.int z14), (.ref b55), (.ref b51), (.ref b47), (.ref b37), (.ref b37)])) rfl (by rw [hml]; rfl) (argsL := [(.int z14)]) (rest := [(.ref b55), (.ref b51), (.ref b47), (.ref b37), (.ref b37)]) (lenOf pd_9 rfl) rfl (by show 2 * 0 + _ ≤ _; exact Nat.le_of_eq rfl) (hb hby at_198) (fun _ _ => ⟨rfl, rfl, (by decide : 10 + 3 ≤ _), (by decide : 41 + 12 ≤ _)⟩)
            dsimp only [Pt.U, Pt.locs, Pt.cells, Pt.slots] at X56 l56 y56 z56 st56 hQ56 S56 G56 C56q
            subst l56 y56 z56
            have hS := foldS hS (show _ ≤ T52.heap.size from hk) S56 G56
            have hown : (s.setVm T56.vm).vm.findClass "com/example/subjectory/subjectory/heading/ClassLinkEqualsPinLaw" = some m.cls := by rw [show (s.setVm T56.vm).vm = T56.vm from rfl, S56.1.alike.findClass]; exact hown
            have hZ : Z.Warmed39 (s.setVm T56.vm).vm := State.Warmed39.trans (t := s.setVm T52.vm) hZ S56.1
            have hk := Nat.le_refl T56.heap.size
            have C58 := C54.trans C56q
            have X56 : Stand p l e room_1 (s.setVm T56.vm) m #[(.long q1), (.long q2), (.long q3), (.long q4), (.int p5), (.int p6)] below meth c T56 _ _ _ := X56
            obtain ⟨b59, rfl, N56q, K56q, fq56_0⟩ := hQ56
            have N56 := Fr.app Ng52 N56q
            have Z56 : n0 ≤ T56.heap.size := Nat.le_trans Z52 K56q.1
            obtain ⟨Lg56, Xg56, Ng56⟩ := Stand_gen X56 N56
            refine RunW.tr st56 ?_
            show RunW p e below s Z own_EL 55 390 (Q_rm0 Z q1 q2 q3 q4 p5 p6 cs h0 n0) (T56.setTop (mkF m 201 #[.val (.long q1), .second, .val (.long q2), .second, .val (.long q3), .second, .val (.long q4), .second, .val (.int p5), .val (.int p6), .val (.int z8), .val (.int z10), .val (.int z12), .val (.int z14), .val (.int z16), .val (.int w19), .val (.int w23), .val (.int w27), .val (.int w31), .val (.int w35), .unset, .unset, .unset, .unset] [(.ref b59), (.ref b55), (.ref b51), (.ref b47), (.ref b37), (.ref b37)]))
            refine RunW.go (fun _ k => XS.iload Xg56.here hx rfl (hb hby at_201) rfl  k) ?_
            show RunW p e below s Z own_EL 55 390 (Q_rm0 Z q1 q2 q3 q4 p5 p6 cs h0 n0) (T56.setTop (mkF m 203 #[.val (.long q1), .second, .val (.long q2), .second, .val (.long q3), .second, .val (.long q4), .second, .val (.int p5), .val (.int p6), .val (.int z8), .val (.int z10), .val (.int z12), .val (.int z14), .val (.int z16), .val (.int w19), .val (.int w23), .val (.int w27), .val (.int w31), .val (.int w35), .unset, .unset, .unset, .unset] [(.int z16), (.ref b59), (.ref b55), (.ref b51), (.ref b47), (.ref b37), (.ref b37)]))
            have fx61 := (Sta.keep fx57 K56q all0)
            obtain ⟨_, _, ⟨T60, L60, k60, n60⟩, -, X60, S60, G60, ⟨Lc60, hQ60, l60, y60, z60, C60q⟩, st60⟩ := callSS Xg56 hx (y := (⟨"com/example/subjectory/subjectory/heading/ClassLinkEqualsPinLaw", "str", "(I)Ljava/lang/String;"⟩ : MethodName)) hown (mvT hZ (hw _ (List.mem_of_getElem? (i := 9) rfl))) (mvT hZ (hw _ (List.mem_of_getElem? (i := 10) rfl))) (mvT hZ (hw _ (List.mem_of_getElem? (i := 2) rfl))) (mvT hZ (hw _ (List.mem_of_getElem? (i := 11) rfl))) (by decide) (backOfSH (s := s) (W := 6) (rm2 l Z a0 hw [] z16 cs T56.heap n0 Z56 fx61 hcs) hZ (hw _ (List.mem_of_getElem? (i := 11) rfl)) (hw _ (List.mem_of_getElem? (i := 2) rfl)) (by decide) (by decide) (own_ew hw) C58.1) (g := (mkF m 203 #[.val (.long q1), .second, .val (.long q2), .second, .val (.long q3), .second, .val (.long q4), .second, .val (.int p5), .val (.int p6), .val (.int z8), .val (.int z10), .val (.int z12), .val (.int z14), .val (.int z16), .val (.int w19), .val (.int w23), .val (.int w27), .val (.int w31), .val (.int w35), .unset, .unset, .unset, .unset] [(.int z16), (.ref b59), (.ref b55), (.ref b51), (.ref b47), (.ref b37), (.ref b37)])) rfl (by rw [hml]; rfl) (argsL := [(.int z16)]) (rest := [(.ref b59), (.ref b55), (.ref b51), (.ref b47), (.ref b37), (.ref b37)]) (lenOf pd_9 rfl) rfl (by show 2 * 0 + _ ≤ _; exact Nat.le_of_eq rfl) (hb hby at_203) (fun _ _ => ⟨rfl, rfl, (by decide : 13 + 3 ≤ _), (by decide : 53 + 12 ≤ _)⟩)
            dsimp only [Pt.U, Pt.locs, Pt.cells, Pt.slots] at X60 l60 y60 z60 st60 hQ60 S60 G60 C60q
            subst l60 y60 z60
            have hS := foldS hS (show _ ≤ T56.heap.size from hk) S60 G60
            have hown : (s.setVm T60.vm).vm.findClass "com/example/subjectory/subjectory/heading/ClassLinkEqualsPinLaw" = some m.cls := by rw [show (s.setVm T60.vm).vm = T60.vm from rfl, S60.1.alike.findClass]; exact hown
            have hZ : Z.Warmed39 (s.setVm T60.vm).vm := State.Warmed39.trans (t := s.setVm T56.vm) hZ S60.1
            have hk := Nat.le_refl T60.heap.size
            have C62 := C58.trans C60q
            have X60 : Stand p l e room_1 (s.setVm T60.vm) m #[(.long q1), (.long q2), (.long q3), (.long q4), (.int p5), (.int p6)] below meth c T60 _ _ _ := X60
            obtain ⟨b63, rfl, N60q, K60q, fq60_0⟩ := hQ60
            have N60 := Fr.app Ng56 N60q
            have Z60 : n0 ≤ T60.heap.size := Nat.le_trans Z56 K60q.1
            obtain ⟨Lg60, Xg60, Ng60⟩ := Stand_gen X60 N60
            refine RunW.tr st60 ?_
            show RunW p e below s Z own_EL 55 390 (Q_rm0 Z q1 q2 q3 q4 p5 p6 cs h0 n0) (T60.setTop (mkF m 206 #[.val (.long q1), .second, .val (.long q2), .second, .val (.long q3), .second, .val (.long q4), .second, .val (.int p5), .val (.int p6), .val (.int z8), .val (.int z10), .val (.int z12), .val (.int z14), .val (.int z16), .val (.int w19), .val (.int w23), .val (.int w27), .val (.int w31), .val (.int w35), .unset, .unset, .unset, .unset] [(.ref b63), (.ref b59), (.ref b55), (.ref b51), (.ref b47), (.ref b37), (.ref b37)]))
            have fx65 := (((((A37.keep K44q).keep K48q).keep K52q).keep K56q).keep K60q)
            have fx66 := (((((SStr.exa fq44_0).keep K48q).keep K52q).keep K56q).keep K60q)
            have fx67 := ((((SStr.exa fq48_0).keep K52q).keep K56q).keep K60q)
            have fx68 := (((SStr.exa fq52_0).keep K56q).keep K60q)
            have fx69 := ((SStr.exa fq56_0).keep K60q)
            have fx70 := (((fq48_0.keep0 K52q).keep0 K56q).keep0 K60q)
            have fx71 := (((((fx39.keep K44q nin0).keep K48q nin0).keep K52q nin0).keep K56q nin0).keep K60q nin0)
            have fx72 := (((((fx40.keep K44q nin0).keep K48q nin0).keep K52q nin0).keep K56q nin0).keep K60q nin0)
            have fx73 := (((((fx41.keep K44q nin0).keep K48q nin0).keep K52q nin0).keep K56q nin0).keep K60q nin0)
            have fx74 := (((((fx42.keep K44q nin0).keep K48q nin0).keep K52q nin0).keep K56q nin0).keep K60q nin0)
            have fx75 := (((((fx43.keep K44q nin0).keep K48q nin0).keep K52q nin0).keep K56q nin0).keep K60q nin0)
            have fx76 := ((((fq44_0.keep0 K48q).keep0 K52q).keep0 K56q).keep0 K60q)
            have fx77 := ((fq52_0.keep0 K56q).keep0 K60q)
            have fx78 := (fq56_0.keep0 K60q)
            obtain ⟨_, _, ⟨T64, L64, k64, n64⟩, -, X64, S64, G64, ⟨Lc64, hQ64, l64, y64, z64, C64q⟩, st64⟩ := Xg60.specialBackS hx (y := (⟨"com/example/subjectory/subjectory/heading/ClassLink", "<init>", "(Ljava/lang/String;Ljava/lang/String;Ljava/lang/String;Ljava/lang/String;Ljava/lang/String;)V"⟩ : MethodName)) rfl hown (mvT hZ (hw _ (List.mem_of_getElem? (i := 41) rfl))) (mvT hZ (hw _ (List.mem_of_getElem? (i := 42) rfl))) (mvT hZ (hw _ (List.mem_of_getElem? (i := 43) rfl))) (by decide) (backOfSH (s := s) (W := 1) (rm8 l Z a0 hw [] b37 b47 b51 b55 b59 b63 (own_cs z10) (own_cs z16) .null .null .null .null .null T60.heap n0 Z60 fx65 fx66 fx67 fx68 fx69 (SStr.exa fq60_0) fx70 fq60_0 gz1.2 gz4.2 fx71 g_b37 fx72 fx73 fx74 fx75) hZ (hw _ (List.mem_of_getElem? (i := 43) rfl)) (hw _ (List.mem_of_getElem? (i := 8) rfl)) (by decide) (by decide) (own_ew hw) C62.1) (g := (mkF m 206 #[.val (.long q1), .second, .val (.long q2), .second, .val (.long q3), .second, .val (.long q4), .second, .val (.int p5), .val (.int p6), .val (.int z8), .val (.int z10), .val (.int z12), .val (.int z14), .val (.int z16), .val (.int w19), .val (.int w23), .val (.int w27), .val (.int w31), .val (.int w35), .unset, .unset, .unset, .unset] [(.ref b63), (.ref b59), (.ref b55), (.ref b51), (.ref b47), (.ref b37), (.ref b37)])) rfl (by rw [hml]; rfl) (Steps.refl _) (a := b37) (argsL := [(.ref b47), (.ref b51), (.ref b55), (.ref b59), (.ref b63)]) (rest := [(.ref b37)]) (lenOf pd_10 rfl) rfl (by show 2 * 0 + _ ≤ _; exact Nat.le_of_eq rfl) (hb hby at_206) (fun _ _ => ⟨rfl, rfl, (by decide : 16 + 10 ≤ _), (by decide : 65 + 124 ≤ _)⟩)
            dsimp only [Pt.U, Pt.locs, Pt.cells, Pt.slots] at X64 l64 y64 z64 st64 hQ64 S64 G64 C64q
            subst l64 y64 z64
            have hS := foldS hS (show _ ≤ T60.heap.size from hk) S64 G64
            have hown : (s.setVm T64.vm).vm.findClass "com/example/subjectory/subjectory/heading/ClassLinkEqualsPinLaw" = some m.cls := by rw [show (s.setVm T64.vm).vm = T64.vm from rfl, S64.1.alike.findClass]; exact hown
            have hZ : Z.Warmed39 (s.setVm T64.vm).vm := State.Warmed39.trans (t := s.setVm T60.vm) hZ S64.1
            have hk := Nat.le_refl T64.heap.size
            have C79 := C62.trans C64q
            have X64 : Stand p l e room_1 (s.setVm T64.vm) m #[(.long q1), (.long q2), (.long q3), (.long q4), (.int p5), (.int p6)] below meth c T64 _ _ _ := X64
            obtain ⟨rfl, N64q, K64q, fq64_0, fq64_1, fq64_2, fq64_3, fq64_4, fq64_5⟩ := hQ64
            have N64 := Fr.app Ng60 N64q
            have Z64 : n0 ≤ T64.heap.size := Nat.le_trans Z60 K64q.1
            have fx80 := fx76.keep1 K64q fx65 (hw _ (List.mem_of_getElem? (i := 7) rfl)) (by decide)
            have fx81 := fx70.keep1 K64q fx65 (hw _ (List.mem_of_getElem? (i := 7) rfl)) (by decide)
            have fx82 := fx77.keep1 K64q fx65 (hw _ (List.mem_of_getElem? (i := 7) rfl)) (by decide)
            have fx83 := fx78.keep1 K64q fx65 (hw _ (List.mem_of_getElem? (i := 7) rfl)) (by decide)
            have fx84 := fq60_0.keep1 K64q fx65 (hw _ (List.mem_of_getElem? (i := 7) rfl)) (by decide)
            obtain ⟨Lg64, Xg64, Ng64⟩ := Stand_gen X64 N64
            refine RunW.tr st64 ?_
            show RunW p e below s Z own_EL 55 390 (Q_rm0 Z q1 q2 q3 q4 p5 p6 cs h0 n0) (T64.setTop (mkF m 209 #[.val (.long q1), .second, .val (.long q2), .second, .val (.long q3), .second, .val (.long q4), .second, .val (.int p5), .val (.int p6), .val (.int z8), .val (.int z10), .val (.int z12), .val (.int z14), .val (.int z16), .val (.int w19), .val (.int w23), .val (.int w27), .val (.int w31), .val (.int w35), .unset, .unset, .unset, .unset] [(.ref b37)]))
            refine RunW.go (fun _ k => XS.astore Xg64.here hx rfl (hb hby at_209) rfl rfl (l' := #[.val (.long q1), .second, .val (.long q2), .second, .val (.long q3), .second, .val (.long q4), .second, .val (.int p5), .val (.int p6), .val (.int z8), .val (.int z10), .val (.int z12), .val (.int z14), .val (.int z16), .val (.int w19), .val (.int w23), .val (.int w27), .val (.int w31), .val (.int w35), .val (.ref b37), .unset, .unset, .unset]) rfl k) ?_
            show RunW p e below s Z own_EL 55 390 (Q_rm0 Z q1 q2 q3 q4 p5 p6 cs h0 n0) (T64.setTop (mkF m 211 #[.val (.long q1), .second, .val (.long q2), .second, .val (.long q3), .second, .val (.long q4), .second, .val (.int p5), .val (.int p6), .val (.int z8), .val (.int z10), .val (.int z12), .val (.int z14), .val (.int z16), .val (.int w19), .val (.int w23), .val (.int w27), .val (.int w31), .val (.int w35), .val (.ref b37), .unset, .unset, .unset] []))
            obtain ⟨T85, h85, X85, e85, E85, A85, D85, -, st85⟩ := newO Xg64 hx hZ hown (hw _ (List.mem_of_getElem? (i := 6) rfl)) (hw _ (List.mem_of_getElem? (i := 7) rfl)) (hw _ (List.mem_of_getElem? (i := 8) rfl)) rfl (g := (mkF m 211 #[.val (.long q1), .second, .val (.long q2), .second, .val (.long q3), .second, .val (.long q4), .second, .val (.int p5), .val (.int p6), .val (.int z8), .val (.int z10), .val (.int z12), .val (.int z14), .val (.int z16), .val (.int w19), .val (.int w23), .val (.int w27), .val (.int w31), .val (.int w35), .val (.ref b37), .unset, .unset, .unset] [])) rfl (hb hby at_211) (by decide) (by decide)
            obtain ⟨b85, g85⟩ : ∃ z, z = T64.heap.size := ⟨_, rfl⟩
            rw [← g85] at A85 D85 st85
            have C86 := C79.trans (CHr.ext E85 C79.1)
            have hk := Nat.le_trans hk E85.1
            have g_b85 : n0 ≤ b85 := Nat.le_trans Z64 (Nat.le_of_eq g85.symm)
            have Z85 : n0 ≤ h85.size := Nat.le_trans Z64 E85.1
            have ne_b37_b85 : b37 ≠ b85 := Nat.ne_of_lt (Nat.lt_of_lt_of_le fq64_0.lt (Nat.le_of_eq g85.symm))
            have ne_b47_b85 : b47 ≠ b85 := Nat.ne_of_lt (Nat.lt_of_lt_of_le fx80.lt (Nat.le_of_eq g85.symm))
            have ne_b51_b85 : b51 ≠ b85 := Nat.ne_of_lt (Nat.lt_of_lt_of_le fx81.lt (Nat.le_of_eq g85.symm))
            have ne_b55_b85 : b55 ≠ b85 := Nat.ne_of_lt (Nat.lt_of_lt_of_le fx82.lt (Nat.le_of_eq g85.symm))
            have ne_b59_b85 : b59 ≠ b85 := Nat.ne_of_lt (Nat.lt_of_lt_of_le fx83.lt (Nat.le_of_eq g85.symm))
            have ne_b63_b85 : b63 ≠ b85 := Nat.ne_of_lt (Nat.lt_of_lt_of_le fx84.lt (Nat.le_of_eq g85.symm))
            have fx87 : Fld Z h85 b85 "com/example/subjectory/subjectory/heading/ClassLink" "scheme" "Ljava/lang/String;" .null := D85 (Or.inr (hw _ (List.mem_of_getElem? (i := 59) rfl))) (ty := (.object "java/lang/String")) (by decide)
            have fx88 : Fld Z h85 b85 "com/example/subjectory/subjectory/heading/ClassLink" "number" "Ljava/lang/String;" .null := D85 (Or.inr (hw _ (List.mem_of_getElem? (i := 61) rfl))) (ty := (.object "java/lang/String")) (by decide)
            have fx89 : Fld Z h85 b85 "com/example/subjectory/subjectory/heading/ClassLink" "caption" "Ljava/lang/String;" .null := D85 (Or.inr (hw _ (List.mem_of_getElem? (i := 64) rfl))) (ty := (.object "java/lang/String")) (by decide)
            have fx90 : Fld Z h85 b85 "com/example/subjectory/subjectory/heading/ClassLink" "tag" "Ljava/lang/String;" .null := D85 (Or.inr (hw _ (List.mem_of_getElem? (i := 67) rfl))) (ty := (.object "java/lang/String")) (by decide)
            have fx91 : Fld Z h85 b85 "com/example/subjectory/subjectory/heading/ClassLink" "term" "Ljava/lang/String;" .null := D85 (Or.inr (hw _ (List.mem_of_getElem? (i := 69) rfl))) (ty := (.object "java/lang/String")) (by decide)
            refine RunW.go st85 ?_
            show RunW p e below s Z own_EL 55 390 (Q_rm0 Z q1 q2 q3 q4 p5 p6 cs h0 n0) (T85.setTop (mkF m 214 #[.val (.long q1), .second, .val (.long q2), .second, .val (.long q3), .second, .val (.long q4), .second, .val (.int p5), .val (.int p6), .val (.int z8), .val (.int z10), .val (.int z12), .val (.int z14), .val (.int z16), .val (.int w19), .val (.int w23), .val (.int w27), .val (.int w31), .val (.int w35), .val (.ref b37), .unset, .unset, .unset] [(.ref b85)]))
            refine RunW.go (fun _ k => XS.dup X85.here hx rfl (hb hby at_214) rfl rfl k) ?_
            show RunW p e below s Z own_EL 55 390 (Q_rm0 Z q1 q2 q3 q4 p5 p6 cs h0 n0) (T85.setTop (mkF m 215 #[.val (.long q1), .second, .val (.long q2), .second, .val (.long q3), .second, .val (.long q4), .second, .val (.int p5), .val (.int p6), .val (.int z8), .val (.int z10), .val (.int z12), .val (.int z14), .val (.int z16), .val (.int w19), .val (.int w23), .val (.int w27), .val (.int w31), .val (.int w35), .val (.ref b37), .unset, .unset, .unset] [(.ref b85), (.ref b85)]))
            refine RunW.go (fun _ k => XS.iload X85.here hx rfl (hb hby at_215) rfl  k) ?_
            show RunW p e below s Z own_EL 55 390 (Q_rm0 Z q1 q2 q3 q4 p5 p6 cs h0 n0) (T85.setTop (mkF m 217 #[.val (.long q1), .second, .val (.long q2), .second, .val (.long q3), .second, .val (.long q4), .second, .val (.int p5), .val (.int p6), .val (.int z8), .val (.int z10), .val (.int z12), .val (.int z14), .val (.int z16), .val (.int w19), .val (.int w23), .val (.int w27), .val (.int w31), .val (.int w35), .val (.ref b37), .unset, .unset, .unset] [(.int w19), (.ref b85), (.ref b85)]))
            have fx93 := ((Sta.keep (Sta.keep fx61 K60q all0) K64q (allS (Exa.nst fx65) all0)).ext E85)
            obtain ⟨_, _, ⟨T92, L92, k92, n92⟩, -, X92, S92, G92, ⟨Lc92, hQ92, l92, y92, z92, C92q⟩, st92⟩ := callSS X85 hx (y := (⟨"com/example/subjectory/subjectory/heading/ClassLinkEqualsPinLaw", "str", "(I)Ljava/lang/String;"⟩ : MethodName)) hown (mvT hZ (hw _ (List.mem_of_getElem? (i := 9) rfl))) (mvT hZ (hw _ (List.mem_of_getElem? (i := 10) rfl))) (mvT hZ (hw _ (List.mem_of_getElem? (i := 2) rfl))) (mvT hZ (hw _ (List.mem_of_getElem? (i := 11) rfl))) (by decide) (backOfSH (s := s) (W := 2) (rm2 l Z a0 hw [] w19 cs h85 n0 Z85 fx93 hcs) hZ (hw _ (List.mem_of_getElem? (i := 11) rfl)) (hw _ (List.mem_of_getElem? (i := 2) rfl)) (by decide) (by decide) (own_ew hw) C86.1) (g := (mkF m 217 #[.val (.long q1), .second, .val (.long q2), .second, .val (.long q3), .second, .val (.long q4), .second, .val (.int p5), .val (.int p6), .val (.int z8), .val (.int z10), .val (.int z12), .val (.int z14), .val (.int z16), .val (.int w19), .val (.int w23), .val (.int w27), .val (.int w31), .val (.int w35), .val (.ref b37), .unset, .unset, .unset] [(.int w19), (.ref b85), (.ref b85)])) rfl (by rw [hml]; rfl) (argsL := [(.int w19)]) (rest := [(.ref b85), (.ref b85)]) (lenOf pd_9 rfl) rfl (by show 2 * 0 + _ ≤ _; exact Nat.le_of_eq rfl) (hb hby at_217) (fun _ _ => ⟨rfl, e85, (by decide : 27 + 3 ≤ _), (by decide : 194 + 12 ≤ _)⟩)
            dsimp only [Pt.U, Pt.locs, Pt.cells, Pt.slots] at X92 l92 y92 z92 st92 hQ92 S92 G92 C92q
            subst l92 y92 z92
            have hS := foldS hS (show _ ≤ T85.heap.size from by rw [e85]; exact hk) S92 G92
            have hown : (s.setVm T92.vm).vm.findClass "com/example/subjectory/subjectory/heading/ClassLinkEqualsPinLaw" = some m.cls := by rw [show (s.setVm T92.vm).vm = T92.vm from rfl, S92.1.alike.findClass]; exact hown
            have hZ : Z.Warmed39 (s.setVm T92.vm).vm := State.Warmed39.trans (t := s.setVm T64.vm) hZ S92.1
            have hk := Nat.le_refl T92.heap.size
            have C94 := C86.trans C92q
            have X92 : Stand p l e room_1 (s.setVm T92.vm) m #[(.long q1), (.long q2), (.long q3), (.long q4), (.int p5), (.int p6)] below meth c T92 _ _ _ := X92
            obtain ⟨b95, rfl, N92q, K92q, fq92_0⟩ := hQ92
            have N92 := Fr.app Ng64 N92q
            have Z92 : n0 ≤ T92.heap.size := Nat.le_trans Z85 K92q.1
            obtain ⟨Lg92, Xg92, Ng92⟩ := Stand_gen X92 N92
            refine RunW.tr st92 ?_
            show RunW p e below s Z own_EL 55 390 (Q_rm0 Z q1 q2 q3 q4 p5 p6 cs h0 n0) (T92.setTop (mkF m 220 #[.val (.long q1), .second, .val (.long q2), .second, .val (.long q3), .second, .val (.long q4), .second, .val (.int p5), .val (.int p6), .val (.int z8), .val (.int z10), .val (.int z12), .val (.int z14), .val (.int z16), .val (.int w19), .val (.int w23), .val (.int w27), .val (.int w31), .val (.int w35), .val (.ref b37), .unset, .unset, .unset] [(.ref b95), (.ref b85), (.ref b85)]))
            refine RunW.go (fun _ k => XS.iload Xg92.here hx rfl (hb hby at_220) rfl  k) ?_
            show RunW p e below s Z own_EL 55 390 (Q_rm0 Z q1 q2 q3 q4 p5 p6 cs h0 n0) (T92.setTop (mkF m 222 #[.val (.long q1), .second, .val (.long q2), .second, .val (.long q3), .second, .val (.long q4), .second, .val (.int p5), .val (.int p6), .val (.int z8), .val (.int z10), .val (.int z12), .val (.int z14), .val (.int z16), .val (.int w19), .val (.int w23), .val (.int w27), .val (.int w31), .val (.int w35), .val (.ref b37), .unset, .unset, .unset] [(.int w23), (.ref b95), (.ref b85), (.ref b85)]))
            have fx97 := (Sta.keep fx93 K92q all0)
            obtain ⟨_, _, ⟨T96, L96, k96, n96⟩, -, X96, S96, G96, ⟨Lc96, hQ96, l96, y96, z96, C96q⟩, st96⟩ := callSS Xg92 hx (y := (⟨"com/example/subjectory/subjectory/heading/ClassLinkEqualsPinLaw", "str", "(I)Ljava/lang/String;"⟩ : MethodName)) hown (mvT hZ (hw _ (List.mem_of_getElem? (i := 9) rfl))) (mvT hZ (hw _ (List.mem_of_getElem? (i := 10) rfl))) (mvT hZ (hw _ (List.mem_of_getElem? (i := 2) rfl))) (mvT hZ (hw _ (List.mem_of_getElem? (i := 11) rfl))) (by decide) (backOfSH (s := s) (W := 3) (rm2 l Z a0 hw [] w23 cs T92.heap n0 Z92 fx97 hcs) hZ (hw _ (List.mem_of_getElem? (i := 11) rfl)) (hw _ (List.mem_of_getElem? (i := 2) rfl)) (by decide) (by decide) (own_ew hw) C94.1) (g := (mkF m 222 #[.val (.long q1), .second, .val (.long q2), .second, .val (.long q3), .second, .val (.long q4), .second, .val (.int p5), .val (.int p6), .val (.int z8), .val (.int z10), .val (.int z12), .val (.int z14), .val (.int z16), .val (.int w19), .val (.int w23), .val (.int w27), .val (.int w31), .val (.int w35), .val (.ref b37), .unset, .unset, .unset] [(.int w23), (.ref b95), (.ref b85), (.ref b85)])) rfl (by rw [hml]; rfl) (argsL := [(.int w23)]) (rest := [(.ref b95), (.ref b85), (.ref b85)]) (lenOf pd_9 rfl) rfl (by show 2 * 0 + _ ≤ _; exact Nat.le_of_eq rfl) (hb hby at_222) (fun _ _ => ⟨rfl, rfl, (by decide : 30 + 3 ≤ _), (by decide : 206 + 12 ≤ _)⟩)
            dsimp only [Pt.U, Pt.locs, Pt.cells, Pt.slots] at X96 l96 y96 z96 st96 hQ96 S96 G96 C96q
            subst l96 y96 z96
            have hS := foldS hS (show _ ≤ T92.heap.size from hk) S96 G96
            have hown : (s.setVm T96.vm).vm.findClass "com/example/subjectory/subjectory/heading/ClassLinkEqualsPinLaw" = some m.cls := by rw [show (s.setVm T96.vm).vm = T96.vm from rfl, S96.1.alike.findClass]; exact hown
            have hZ : Z.Warmed39 (s.setVm T96.vm).vm := State.Warmed39.trans (t := s.setVm T92.vm) hZ S96.1
            have hk := Nat.le_refl T96.heap.size
            have C98 := C94.trans C96q
            have X96 : Stand p l e room_1 (s.setVm T96.vm) m #[(.long q1), (.long q2), (.long q3), (.long q4), (.int p5), (.int p6)] below meth c T96 _ _ _ := X96
            obtain ⟨b99, rfl, N96q, K96q, fq96_0⟩ := hQ96
            have N96 := Fr.app Ng92 N96q
            have Z96 : n0 ≤ T96.heap.size := Nat.le_trans Z92 K96q.1
            obtain ⟨Lg96, Xg96, Ng96⟩ := Stand_gen X96 N96
            refine RunW.tr st96 ?_
            show RunW p e below s Z own_EL 55 390 (Q_rm0 Z q1 q2 q3 q4 p5 p6 cs h0 n0) (T96.setTop (mkF m 225 #[.val (.long q1), .second, .val (.long q2), .second, .val (.long q3), .second, .val (.long q4), .second, .val (.int p5), .val (.int p6), .val (.int z8), .val (.int z10), .val (.int z12), .val (.int z14), .val (.int z16), .val (.int w19), .val (.int w23), .val (.int w27), .val (.int w31), .val (.int w35), .val (.ref b37), .unset, .unset, .unset] [(.ref b99), (.ref b95), (.ref b85), (.ref b85)]))
            refine RunW.go (fun _ k => XS.iload Xg96.here hx rfl (hb hby at_225) rfl  k) ?_
            show RunW p e below s Z own_EL 55 390 (Q_rm0 Z q1 q2 q3 q4 p5 p6 cs h0 n0) (T96.setTop (mkF m 227 #[.val (.long q1), .second, .val (.long q2), .second, .val (.long q3), .second, .val (.long q4), .second, .val (.int p5), .val (.int p6), .val (.int z8), .val (.int z10), .val (.int z12), .val (.int z14), .val (.int z16), .val (.int w19), .val (.int w23), .val (.int w27), .val (.int w31), .val (.int w35), .val (.ref b37), .unset, .unset, .unset] [(.int w27), (.ref b99), (.ref b95), (.ref b85), (.ref b85)]))
            have fx101 := (Sta.keep fx97 K96q all0)
            obtain ⟨_, _, ⟨T100, L100, k100, n100⟩, -, X100, S100, G100, ⟨Lc100, hQ100, l100, y100, z100, C100q⟩, st100⟩ := callSS Xg96 hx (y := (⟨"com/example/subjectory/subjectory/heading/ClassLinkEqualsPinLaw", "str", "(I)Ljava/lang/String;"⟩ : MethodName)) hown (mvT hZ (hw _ (List.mem_of_getElem? (i := 9) rfl))) (mvT hZ (hw _ (List.mem_of_getElem? (i := 10) rfl))) (mvT hZ (hw _ (List.mem_of_getElem? (i := 2) rfl))) (mvT hZ (hw _ (List.mem_of_getElem? (i := 11) rfl))) (by decide) (backOfSH (s := s) (W := 4) (rm2 l Z a0 hw [] w27 cs T96.heap n0 Z96 fx101 hcs) hZ (hw _ (List.mem_of_getElem? (i := 11) rfl)) (hw _ (List.mem_of_getElem? (i := 2) rfl)) (by decide) (by decide) (own_ew hw) C98.1) (g := (mkF m 227 #[.val (.long q1), .second, .val (.long q2), .second, .val (.long q3), .second, .val (.long q4), .second, .val (.int p5), .val (.int p6), .val (.int z8), .val (.int z10), .val (.int z12), .val (.int z14), .val (.int z16), .val (.int w19), .val (.int w23), .val (.int w27), .val (.int w31), .val (.int w35), .val (.ref b37), .unset, .unset, .unset] [(.int w27), (.ref b99), (.ref b95), (.ref b85), (.ref b85)])) rfl (by rw [hml]; rfl) (argsL := [(.int w27)]) (rest := [(.ref b99), (.ref b95), (.ref b85), (.ref b85)]) (lenOf pd_9 rfl) rfl (by show 2 * 0 + _ ≤ _; exact Nat.le_of_eq rfl) (hb hby at_227) (fun _ _ => ⟨rfl, rfl, (by decide : 33 + 3 ≤ _), (by decide : 218 + 12 ≤ _)⟩)
            dsimp only [Pt.U, Pt.locs, Pt.cells, Pt.slots] at X100 l100 y100 z100 st100 hQ100 S100 G100 C100q
            subst l100 y100 z100
            have hS := foldS hS (show _ ≤ T96.heap.size from hk) S100 G100
            have hown : (s.setVm T100.vm).vm.findClass "com/example/subjectory/subjectory/heading/ClassLinkEqualsPinLaw" = some m.cls := by rw [show (s.setVm T100.vm).vm = T100.vm from rfl, S100.1.alike.findClass]; exact hown
            have hZ : Z.Warmed39 (s.setVm T100.vm).vm := State.Warmed39.trans (t := s.setVm T96.vm) hZ S100.1
            have hk := Nat.le_refl T100.heap.size
            have C102 := C98.trans C100q
            have X100 : Stand p l e room_1 (s.setVm T100.vm) m #[(.long q1), (.long q2), (.long q3), (.long q4), (.int p5), (.int p6)] below meth c T100 _ _ _ := X100
            obtain ⟨b103, rfl, N100q, K100q, fq100_0⟩ := hQ100
            have N100 := Fr.app Ng96 N100q
            have Z100 : n0 ≤ T100.heap.size := Nat.le_trans Z96 K100q.1
            obtain ⟨Lg100, Xg100, Ng100⟩ := Stand_gen X100 N100
            refine RunW.tr st100 ?_
            show RunW p e below s Z own_EL 55 390 (Q_rm0 Z q1 q2 q3 q4 p5 p6 cs h0 n0) (T100.setTop (mkF m 230 #[.val (.long q1), .second, .val (.long q2), .second, .val (.long q3), .second, .val (.long q4), .second, .val (.int p5), .val (.int p6), .val (.int z8), .val (.int z10), .val (.int z12), .val (.int z14), .val (.int z16), .val (.int w19), .val (.int w23), .val (.int w27), .val (.int w31), .val (.int w35), .val (.ref b37), .unset, .unset, .unset] [(.ref b103), (.ref b99), (.ref b95), (.ref b85), (.ref b85)]))
            refine RunW.go (fun _ k => XS.iload Xg100.here hx rfl (hb hby at_230) rfl  k) ?_
            show RunW p e below s Z own_EL 55 390 (Q_rm0 Z q1 q2 q3 q4 p5 p6 cs h0 n0) (T100.setTop (mkF m 232 #[.val (.long q1), .second, .val (.long q2), .second, .val (.long q3), .second, .val (.long q4), .second, .val (.int p5), .val (.int p6), .val (.int z8), .val (.int z10), .val (.int z12), .val (.int z14), .val (.int z16), .val (.int w19), .val (.int w23), .val (.int w27), .val (.int w31), .val (.int w35), .val (.ref b37), .unset, .unset, .unset] [(.int w31), (.ref b103), (.ref b99), (.ref b95), (.ref b85), (.ref b85)]))
            have fx105 := (Sta.keep fx101 K100q all0)
            obtain ⟨_, _, ⟨T104, L104, k104, n104⟩, -, X104, S104, G104, ⟨Lc104, hQ104, l104, y104, z104, C104q⟩, st104⟩ := callSS Xg100 hx (y := (⟨"com/example/subjectory/subjectory/heading/ClassLinkEqualsPinLaw", "str", "(I)Ljava/lang/String;"⟩ : MethodName)) hown (mvT hZ (hw _ (List.mem_of_getElem? (i := 9) rfl))) (mvT hZ (hw _ (List.mem_of_getElem? (i := 10) rfl))) (mvT hZ (hw _ (List.mem_of_getElem? (i := 2) rfl))) (mvT hZ (hw _ (List.mem_of_getElem? (i := 11) rfl))) (by decide) (backOfSH (s := s) (W := 5) (rm2 l Z a0 hw [] w31 cs T100.heap n0 Z100 fx105 hcs) hZ (hw _ (List.mem_of_getElem? (i := 11) rfl)) (hw _ (List.mem_of_getElem? (i := 2) rfl)) (by decide) (by decide) (own_ew hw) C102.1) (g := (mkF m 232 #[.val (.long q1), .second, .val (.long q2), .second, .val (.long q3), .second, .val (.long q4), .second, .val (.int p5), .val (.int p6), .val (.int z8), .val (.int z10), .val (.int z12), .val (.int z14), .val (.int z16), .val (.int w19), .val (.int w23), .val (.int w27), .val (.int w31), .val (.int w35), .val (.ref b37), .unset, .unset, .unset] [(.int w31), (.ref b103), (.ref b99), (.ref b95), (.ref b85), (.ref b85)])) rfl (by rw [hml]; rfl) (argsL := [(.int w31)]) (rest := [(.ref b103), (.ref b99), (.ref b95), (.ref b85), (.ref b85)]) (lenOf pd_9 rfl) rfl (by show 2 * 0 + _ ≤ _; exact Nat.le_of_eq rfl) (hb hby at_232) (fun _ _ => ⟨rfl, rfl, (by decide : 36 + 3 ≤ _), (by decide : 230 + 12 ≤ _)⟩)
            dsimp only [Pt.U, Pt.locs, Pt.cells, Pt.slots] at X104 l104 y104 z104 st104 hQ104 S104 G104 C104q
            subst l104 y104 z104
            have hS := foldS hS (show _ ≤ T100.heap.size from hk) S104 G104
            have hown : (s.setVm T104.vm).vm.findClass "com/example/subjectory/subjectory/heading/ClassLinkEqualsPinLaw" = some m.cls := by rw [show (s.setVm T104.vm).vm = T104.vm from rfl, S104.1.alike.findClass]; exact hown
            have hZ : Z.Warmed39 (s.setVm T104.vm).vm := State.Warmed39.trans (t := s.setVm T100.vm) hZ S104.1
            have hk := Nat.le_refl T104.heap.size
            have C106 := C102.trans C104q
            have X104 : Stand p l e room_1 (s.setVm T104.vm) m #[(.long q1), (.long q2), (.long q3), (.long q4), (.int p5), (.int p6)] below meth c T104 _ _ _ := X104
            obtain ⟨b107, rfl, N104q, K104q, fq104_0⟩ := hQ104
            have N104 := Fr.app Ng100 N104q
            have Z104 : n0 ≤ T104.heap.size := Nat.le_trans Z100 K104q.1
            obtain ⟨Lg104, Xg104, Ng104⟩ := Stand_gen X104 N104
            refine RunW.tr st104 ?_
            show RunW p e below s Z own_EL 55 390 (Q_rm0 Z q1 q2 q3 q4 p5 p6 cs h0 n0) (T104.setTop (mkF m 235 #[.val (.long q1), .second, .val (.long q2), .second, .val (.long q3), .second, .val (.long q4), .second, .val (.int p5), .val (.int p6), .val (.int z8), .val (.int z10), .val (.int z12), .val (.int z14), .val (.int z16), .val (.int w19), .val (.int w23), .val (.int w27), .val (.int w31), .val (.int w35), .val (.ref b37), .unset, .unset, .unset] [(.ref b107), (.ref b103), (.ref b99), (.ref b95), (.ref b85), (.ref b85)]))
            refine RunW.go (fun _ k => XS.iload Xg104.here hx rfl (hb hby at_235) rfl  k) ?_
            show RunW p e below s Z own_EL 55 390 (Q_rm0 Z q1 q2 q3 q4 p5 p6 cs h0 n0) (T104.setTop (mkF m 237 #[.val (.long q1), .second, .val (.long q2), .second, .val (.long q3), .second, .val (.long q4), .second, .val (.int p5), .val (.int p6), .val (.int z8), .val (.int z10), .val (.int z12), .val (.int z14), .val (.int z16), .val (.int w19), .val (.int w23), .val (.int w27), .val (.int w31), .val (.int w35), .val (.ref b37), .unset, .unset, .unset] [(.int w35), (.ref b107), (.ref b103), (.ref b99), (.ref b95), (.ref b85), (.ref b85)]))
            have fx109 := (Sta.keep fx105 K104q all0)
            obtain ⟨_, _, ⟨T108, L108, k108, n108⟩, -, X108, S108, G108, ⟨Lc108, hQ108, l108, y108, z108, C108q⟩, st108⟩ := callSS Xg104 hx (y := (⟨"com/example/subjectory/subjectory/heading/ClassLinkEqualsPinLaw", "str", "(I)Ljava/lang/String;"⟩ : MethodName)) hown (mvT hZ (hw _ (List.mem_of_getElem? (i := 9) rfl))) (mvT hZ (hw _ (List.mem_of_getElem? (i := 10) rfl))) (mvT hZ (hw _ (List.mem_of_getElem? (i := 2) rfl))) (mvT hZ (hw _ (List.mem_of_getElem? (i := 11) rfl))) (by decide) (backOfSH (s := s) (W := 6) (rm2 l Z a0 hw [] w35 cs T104.heap n0 Z104 fx109 hcs) hZ (hw _ (List.mem_of_getElem? (i := 11) rfl)) (hw _ (List.mem_of_getElem? (i := 2) rfl)) (by decide) (by decide) (own_ew hw) C106.1) (g := (mkF m 237 #[.val (.long q1), .second, .val (.long q2), .second, .val (.long q3), .second, .val (.long q4), .second, .val (.int p5), .val (.int p6), .val (.int z8), .val (.int z10), .val (.int z12), .val (.int z14), .val (.int z16), .val (.int w19), .val (.int w23), .val (.int w27), .val (.int w31), .val (.int w35), .val (.ref b37), .unset, .unset, .unset] [(.int w35), (.ref b107), (.ref b103), (.ref b99), (.ref b95), (.ref b85), (.ref b85)])) rfl (by rw [hml]; rfl) (argsL := [(.int w35)]) (rest := [(.ref b107), (.ref b103), (.ref b99), (.ref b95), (.ref b85), (.ref b85)]) (lenOf pd_9 rfl) rfl (by show 2 * 0 + _ ≤ _; exact Nat.le_of_eq rfl) (hb hby at_237) (fun _ _ => ⟨rfl, rfl, (by decide : 39 + 3 ≤ _), (by decide : 242 + 12 ≤ _)⟩)
            dsimp only [Pt.U, Pt.locs, Pt.cells, Pt.slots] at X108 l108 y108 z108 st108 hQ108 S108 G108 C108q
            subst l108 y108 z108
            have hS := foldS hS (show _ ≤ T104.heap.size from hk) S108 G108
            have hown : (s.setVm T108.vm).vm.findClass "com/example/subjectory/subjectory/heading/ClassLinkEqualsPinLaw" = some m.cls := by rw [show (s.setVm T108.vm).vm = T108.vm from rfl, S108.1.alike.findClass]; exact hown
            have hZ : Z.Warmed39 (s.setVm T108.vm).vm := State.Warmed39.trans (t := s.setVm T104.vm) hZ S108.1
            have hk := Nat.le_refl T108.heap.size
            have C110 := C106.trans C108q
            have X108 : Stand p l e room_1 (s.setVm T108.vm) m #[(.long q1), (.long q2), (.long q3), (.long q4), (.int p5), (.int p6)] below meth c T108 _ _ _ := X108
            obtain ⟨b111, rfl, N108q, K108q, fq108_0⟩ := hQ108
            have N108 := Fr.app Ng104 N108q
            have Z108 : n0 ≤ T108.heap.size := Nat.le_trans Z104 K108q.1
            obtain ⟨Lg108, Xg108, Ng108⟩ := Stand_gen X108 N108
            refine RunW.tr st108 ?_
            show RunW p e below s Z own_EL 55 390 (Q_rm0 Z q1 q2 q3 q4 p5 p6 cs h0 n0) (T108.setTop (mkF m 240 #[.val (.long q1), .second, .val (.long q2), .second, .val (.long q3), .second, .val (.long q4), .second, .val (.int p5), .val (.int p6), .val (.int z8), .val (.int z10), .val (.int z12), .val (.int z14), .val (.int z16), .val (.int w19), .val (.int w23), .val (.int w27), .val (.int w31), .val (.int w35), .val (.ref b37), .unset, .unset, .unset] [(.ref b111), (.ref b107), (.ref b103), (.ref b99), (.ref b95), (.ref b85), (.ref b85)]))
            have fx113 := (((((A85.keep K92q).keep K96q).keep K100q).keep K104q).keep K108q)
            have fx114 := (((((SStr.exa fq92_0).keep K96q).keep K100q).keep K104q).keep K108q)
            have fx115 := ((((SStr.exa fq96_0).keep K100q).keep K104q).keep K108q)
            have fx116 := (((SStr.exa fq100_0).keep K104q).keep K108q)
            have fx117 := ((SStr.exa fq104_0).keep K108q)
            have fx118 := (((fq96_0.keep0 K100q).keep0 K104q).keep0 K108q)
            have fx119 := (((((fx87.keep K92q nin0).keep K96q nin0).keep K100q nin0).keep K104q nin0).keep K108q nin0)
            have fx120 := (((((fx88.keep K92q nin0).keep K96q nin0).keep K100q nin0).keep K104q nin0).keep K108q nin0)
            have fx121 := (((((fx89.keep K92q nin0).keep K96q nin0).keep K100q nin0).keep K104q nin0).keep K108q nin0)
            have fx122 := (((((fx90.keep K92q nin0).keep K96q nin0).keep K100q nin0).keep K104q nin0).keep K108q nin0)
            have fx123 := (((((fx91.keep K92q nin0).keep K96q nin0).keep K100q nin0).keep K104q nin0).keep K108q nin0)
            have fx124 := ((((((fx80.ext E85).keep0 K92q).keep0 K96q).keep0 K100q).keep0 K104q).keep0 K108q)
            have fx125 := ((((((fx81.ext E85).keep0 K92q).keep0 K96q).keep0 K100q).keep0 K104q).keep0 K108q)
            have fx126 := ((((((fx82.ext E85).keep0 K92q).keep0 K96q).keep0 K100q).keep0 K104q).keep0 K108q)
            have fx127 := ((((((fx83.ext E85).keep0 K92q).keep0 K96q).keep0 K100q).keep0 K104q).keep0 K108q)
            have fx128 := ((((((fx84.ext E85).keep0 K92q).keep0 K96q).keep0 K100q).keep0 K104q).keep0 K108q)
            have fx129 := ((((fq92_0.keep0 K96q).keep0 K100q).keep0 K104q).keep0 K108q)
            have fx130 := ((fq100_0.keep0 K104q).keep0 K108q)
            have fx131 := (fq104_0.keep0 K108q)
            obtain ⟨_, _, ⟨T112, L112, k112, n112⟩, -, X112, S112, G112, ⟨Lc112, hQ112, l112, y112, z112, C112q⟩, st112⟩ := Xg108.specialBackS hx (y := (⟨"com/example/subjectory/subjectory/heading/ClassLink", "<init>", "(Ljava/lang/String;Ljava/lang/String;Ljava/lang/String;Ljava/lang/String;Ljava/lang/String;)V"⟩ : MethodName)) rfl hown (mvT hZ (hw _ (List.mem_of_getElem? (i := 41) rfl))) (mvT hZ (hw _ (List.mem_of_getElem? (i := 42) rfl))) (mvT hZ (hw _ (List.mem_of_getElem? (i := 43) rfl))) (by decide) (backOfSH (s := s) (W := 1) (rm8 l Z a0 hw [] b85 b95 b99 b103 b107 b111 (own_cs w23) (own_cs w35) .null .null .null .null .null T108.heap n0 Z108 fx113 fx114 fx115 fx116 fx117 (SStr.exa fq108_0) fx118 fq108_0 gy1.2 gy4.2 fx119 g_b85 fx120 fx121 fx122 fx123) hZ (hw _ (List.mem_of_getElem? (i := 43) rfl)) (hw _ (List.mem_of_getElem? (i := 8) rfl)) (by decide) (by decide) (own_ew hw) C110.1) (g := (mkF m 240 #[.val (.long q1), .second, .val (.long q2), .second, .val (.long q3), .second, .val (.long q4), .second, .val (.int p5), .val (.int p6), .val (.int z8), .val (.int z10), .val (.int z12), .val (.int z14), .val (.int z16), .val (.int w19), .val (.int w23), .val (.int w27), .val (.int w31), .val (.int w35), .val (.ref b37), .unset, .unset, .unset] [(.ref b111), (.ref b107), (.ref b103), (.ref b99), (.ref b95), (.ref b85), (.ref b85)])) rfl (by rw [hml]; rfl) (Steps.refl _) (a := b85) (argsL := [(.ref b95), (.ref b99), (.ref b103), (.ref b107), (.ref b111)]) (rest := [(.ref b85)]) (lenOf pd_10 rfl) rfl (by show 2 * 0 + _ ≤ _; exact Nat.le_of_eq rfl) (hb hby at_240) (fun _ _ => ⟨rfl, rfl, (by decide : 42 + 10 ≤ _), (by decide : 254 + 124 ≤ _)⟩)
            dsimp only [Pt.U, Pt.locs, Pt.cells, Pt.slots] at X112 l112 y112 z112 st112 hQ112 S112 G112 C112q
            subst l112 y112 z112
            have hS := foldS hS (show _ ≤ T108.heap.size from hk) S112 G112
            have hown : (s.setVm T112.vm).vm.findClass "com/example/subjectory/subjectory/heading/ClassLinkEqualsPinLaw" = some m.cls := by rw [show (s.setVm T112.vm).vm = T112.vm from rfl, S112.1.alike.findClass]; exact hown
            have hZ : Z.Warmed39 (s.setVm T112.vm).vm := State.Warmed39.trans (t := s.setVm T108.vm) hZ S112.1
            have hk := Nat.le_refl T112.heap.size
            have C132 := C110.trans C112q
            have X112 : Stand p l e room_1 (s.setVm T112.vm) m #[(.long q1), (.long q2), (.long q3), (.long q4), (.int p5), (.int p6)] below meth c T112 _ _ _ := X112
            obtain ⟨rfl, N112q, K112q, fq112_0, fq112_1, fq112_2, fq112_3, fq112_4, fq112_5⟩ := hQ112
            have N112 := Fr.app Ng108 N112q
            have Z112 : n0 ≤ T112.heap.size := Nat.le_trans Z108 K112q.1
            have fx133 := fx124.keep1 K112q fx113 (hw _ (List.mem_of_getElem? (i := 7) rfl)) (by decide)
            have fx134 := fx125.keep1 K112q fx113 (hw _ (List.mem_of_getElem? (i := 7) rfl)) (by decide)
            have fx135 := fx126.keep1 K112q fx113 (hw _ (List.mem_of_getElem? (i := 7) rfl)) (by decide)
            have fx136 := fx127.keep1 K112q fx113 (hw _ (List.mem_of_getElem? (i := 7) rfl)) (by decide)
            have fx137 := fx128.keep1 K112q fx113 (hw _ (List.mem_of_getElem? (i := 7) rfl)) (by decide)
            have fx138 := fx129.keep1 K112q fx113 (hw _ (List.mem_of_getElem? (i := 7) rfl)) (by decide)
            have fx139 := fx118.keep1 K112q fx113 (hw _ (List.mem_of_getElem? (i := 7) rfl)) (by decide)
            have fx140 := fx130.keep1 K112q fx113 (hw _ (List.mem_of_getElem? (i := 7) rfl)) (by decide)
            have fx141 := fx131.keep1 K112q fx113 (hw _ (List.mem_of_getElem? (i := 7) rfl)) (by decide)
            have fx142 := fq108_0.keep1 K112q fx113 (hw _ (List.mem_of_getElem? (i := 7) rfl)) (by decide)
            obtain ⟨Lg112, Xg112, Ng112⟩ := Stand_gen X112 N112
            refine RunW.tr st112 ?_
            show RunW p e below s Z own_EL 55 390 (Q_rm0 Z q1 q2 q3 q4 p5 p6 cs h0 n0) (T112.setTop (mkF m 243 #[.val (.long q1), .second, .val (.long q2), .second, .val (.long q3), .second, .val (.long q4), .second, .val (.int p5), .val (.int p6), .val (.int z8), .val (.int z10), .val (.int z12), .val (.int z14), .val (.int z16), .val (.int w19), .val (.int w23), .val (.int w27), .val (.int w31), .val (.int w35), .val (.ref b37), .unset, .unset, .unset] [(.ref b85)]))
            refine RunW.go (fun _ k => XS.astore Xg112.here hx rfl (hb hby at_243) rfl rfl (l' := #[.val (.long q1), .second, .val (.long q2), .second, .val (.long q3), .second, .val (.long q4), .second, .val (.int p5), .val (.int p6), .val (.int z8), .val (.int z10), .val (.int z12), .val (.int z14), .val (.int z16), .val (.int w19), .val (.int w23), .val (.int w27), .val (.int w31), .val (.int w35), .val (.ref b37), .val (.ref b85), .unset, .unset]) rfl k) ?_
            show RunW p e below s Z own_EL 55 390 (Q_rm0 Z q1 q2 q3 q4 p5 p6 cs h0 n0) (T112.setTop (mkF m 245 #[.val (.long q1), .second, .val (.long q2), .second, .val (.long q3), .second, .val (.long q4), .second, .val (.int p5), .val (.int p6), .val (.int z8), .val (.int z10), .val (.int z12), .val (.int z14), .val (.int z16), .val (.int w19), .val (.int w23), .val (.int w27), .val (.int w31), .val (.int w35), .val (.ref b37), .val (.ref b85), .unset, .unset] []))
            refine RunW.go (fun _ k => XS.iload Xg112.here hx rfl (hb hby at_245) rfl  k) ?_
            show RunW p e below s Z own_EL 55 390 (Q_rm0 Z q1 q2 q3 q4 p5 p6 cs h0 n0) (T112.setTop (mkF m 247 #[.val (.long q1), .second, .val (.long q2), .second, .val (.long q3), .second, .val (.long q4), .second, .val (.int p5), .val (.int p6), .val (.int z8), .val (.int z10), .val (.int z12), .val (.int z14), .val (.int z16), .val (.int w19), .val (.int w23), .val (.int w27), .val (.int w31), .val (.int w35), .val (.ref b37), .val (.ref b85), .unset, .unset] [(.int p6)]))
            refine RunW.go (fun _ k => XS.iconst Xg112.here hx rfl (hb hby at_247) k) ?_
            show RunW p e below s Z own_EL 55 390 (Q_rm0 Z q1 q2 q3 q4 p5 p6 cs h0 n0) (T112.setTop (mkF m 248 #[.val (.long q1), .second, .val (.long q2), .second, .val (.long q3), .second, .val (.long q4), .second, .val (.int p5), .val (.int p6), .val (.int z8), .val (.int z10), .val (.int z12), .val (.int z14), .val (.int z16), .val (.int w19), .val (.int w23), .val (.int w27), .val (.int w31), .val (.int w35), .val (.ref b37), .val (.ref b85), .unset, .unset] [(.int (3 : Int32)), (.int p6)]))
            refine RunW.go (fun _ k => XS.iand Xg112.here hx rfl (hb hby at_248) rfl k) ?_
            show RunW p e below s Z own_EL 55 390 (Q_rm0 Z q1 q2 q3 q4 p5 p6 cs h0 n0) (T112.setTop (mkF m 249 #[.val (.long q1), .second, .val (.long q2), .second, .val (.long q3), .second, .val (.long q4), .second, .val (.int p5), .val (.int p6), .val (.int z8), .val (.int z10), .val (.int z12), .val (.int z14), .val (.int z16), .val (.int w19), .val (.int w23), .val (.int w27), .val (.int w31), .val (.int w35), .val (.ref b37), .val (.ref b85), .unset, .unset] [(.int (p6 &&& (3 : Int32)))]))
            refine RunW.go (fun _ k => XS.istore Xg112.here hx rfl (hb hby at_249) rfl (l' := #[.val (.long q1), .second, .val (.long q2), .second, .val (.long q3), .second, .val (.long q4), .second, .val (.int p5), .val (.int p6), .val (.int z8), .val (.int z10), .val (.int z12), .val (.int z14), .val (.int z16), .val (.int w19), .val (.int w23), .val (.int w27), .val (.int w31), .val (.int w35), .val (.ref b37), .val (.ref b85), .val (.int (p6 &&& (3 : Int32))), .unset]) rfl k) ?_
            show RunW p e below s Z own_EL 55 390 (Q_rm0 Z q1 q2 q3 q4 p5 p6 cs h0 n0) (T112.setTop (mkF m 251 #[.val (.long q1), .second, .val (.long q2), .second, .val (.long q3), .second, .val (.long q4), .second, .val (.int p5), .val (.int p6), .val (.int z8), .val (.int z10), .val (.int z12), .val (.int z14), .val (.int z16), .val (.int w19), .val (.int w23), .val (.int w27), .val (.int w31), .val (.int w35), .val (.ref b37), .val (.ref b85), .val (.int (p6 &&& (3 : Int32))), .unset] []))
            refine RunW.go (fun _ k => XS.iload Xg112.here hx rfl (hb hby at_251) rfl  k) ?_
            show RunW p e below s Z own_EL 55 390 (Q_rm0 Z q1 q2 q3 q4 p5 p6 cs h0 n0) (T112.setTop (mkF m 253 #[.val (.long q1), .second, .val (.long q2), .second, .val (.long q3), .second, .val (.long q4), .second, .val (.int p5), .val (.int p6), .val (.int z8), .val (.int z10), .val (.int z12), .val (.int z14), .val (.int z16), .val (.int w19), .val (.int w23), .val (.int w27), .val (.int w31), .val (.int w35), .val (.ref b37), .val (.ref b85), .val (.int (p6 &&& (3 : Int32))), .unset] [(.int (p6 &&& (3 : Int32)))]))
            by_cases hc143 : ((p6 &&& (3 : Int32)) = (0 : Int32))
            · refine RunW.go (fun _ k => XS.ifNo Xg112.here hx rfl (hb hby at_253) rfl ((if0 _ _).trans (teq hc143).2) k) ?_
              show RunW p e below s Z own_EL 55 390 (Q_rm0 Z q1 q2 q3 q4 p5 p6 cs h0 n0) (T112.setTop (mkF m 256 #[.val (.long q1), .second, .val (.long q2), .second, .val (.long q3), .second, .val (.long q4), .second, .val (.int p5), .val (.int p6), .val (.int z8), .val (.int z10), .val (.int z12), .val (.int z14), .val (.int z16), .val (.int w19), .val (.int w23), .val (.int w27), .val (.int w31), .val (.int w35), .val (.ref b37), .val (.ref b85), .val (.int (p6 &&& (3 : Int32))), .unset] []))
              refine RunW.go (fun _ k => XS.iload Xg112.here hx rfl (hb hby at_256) rfl  k) ?_
              show RunW p e below s Z own_EL 55 390 (Q_rm0 Z q1 q2 q3 q4 p5 p6 cs h0 n0) (T112.setTop (mkF m 258 #[.val (.long q1), .second, .val (.long q2), .second, .val (.long q3), .second, .val (.long q4), .second, .val (.int p5), .val (.int p6), .val (.int z8), .val (.int z10), .val (.int z12), .val (.int z14), .val (.int z16), .val (.int w19), .val (.int w23), .val (.int w27), .val (.int w31), .val (.int w35), .val (.ref b37), .val (.ref b85), .val (.int (p6 &&& (3 : Int32))), .unset] [(.int z8)]))
              refine RunW.go (fun _ k => XS.iload Xg112.here hx rfl (hb hby at_258) rfl  k) ?_
              show RunW p e below s Z own_EL 55 390 (Q_rm0 Z q1 q2 q3 q4 p5 p6 cs h0 n0) (T112.setTop (mkF m 260 #[.val (.long q1), .second, .val (.long q2), .second, .val (.long q3), .second, .val (.long q4), .second, .val (.int p5), .val (.int p6), .val (.int z8), .val (.int z10), .val (.int z12), .val (.int z14), .val (.int z16), .val (.int w19), .val (.int w23), .val (.int w27), .val (.int w31), .val (.int w35), .val (.ref b37), .val (.ref b85), .val (.int (p6 &&& (3 : Int32))), .unset] [(.int w19), (.int z8)]))
              have J144 : ∀ (w145 : Int32) (hw145 : w145 = (if ((z8 = w19) ∧ ((z10 = w23) ∧ ((z12 = w27) ∧ ((z14 = w31) ∧ (z16 = w35))))) then (1 : Int32) else 0)) (T146 : State) (L146 : List Loc) (X146 : Stand p l e room_1 (s.setVm T112.vm) m #[(.long q1), (.long q2), (.long q3), (.long q4), (.int p5), (.int p6)] below meth c T146 L146 52 378) (e146 : T146.heap = T112.heap) (N146 : Fr n0 L146), RunW p e below s Z own_EL 55 390 (Q_rm0 Z q1 q2 q3 q4 p5 p6 cs h0 n0) (T146.setTop (mkF m 296 #[.val (.long q1), .second, .val (.long q2), .second, .val (.long q3), .second, .val (.long q4), .second, .val (.int p5), .val (.int p6), .val (.int z8), .val (.int z10), .val (.int z12), .val (.int z14), .val (.int z16), .val (.int w19), .val (.int w23), .val (.int w27), .val (.int w31), .val (.int w35), .val (.ref b37), .val (.ref b85), .val (.int (p6 &&& (3 : Int32))), .unset] [(.int w145)])) := by
                intro w145 hw145 T146 L146 X146 e146 N146
                show RunW p e below s Z own_EL 55 390 (Q_rm0 Z q1 q2 q3 q4 p5 p6 cs h0 n0) (T146.setTop (mkF m 296 #[.val (.long q1), .second, .val (.long q2), .second, .val (.long q3), .second, .val (.long q4), .second, .val (.int p5), .val (.int p6), .val (.int z8), .val (.int z10), .val (.int z12), .val (.int z14), .val (.int z16), .val (.int w19), .val (.int w23), .val (.int w27), .val (.int w31), .val (.int w35), .val (.ref b37), .val (.ref b85), .val (.int (p6 &&& (3 : Int32))), .unset] [(.int w145)]))
                refine RunW.go (fun _ k => XS.istore X146.here hx rfl (hb hby at_296) rfl (l' := #[.val (.long q1), .second, .val (.long q2), .second, .val (.long q3), .second, .val (.long q4), .second, .val (.int p5), .val (.int p6), .val (.int z8), .val (.int z10), .val (.int z12), .val (.int z14), .val (.int z16), .val (.int w19), .val (.int w23), .val (.int w27), .val (.int w31), .val (.int w35), .val (.ref b37), .val (.ref b85), .val (.int (p6 &&& (3 : Int32))), .val (.int w145)]) rfl k) ?_
                show RunW p e below s Z own_EL 55 390 (Q_rm0 Z q1 q2 q3 q4 p5 p6 cs h0 n0) (T146.setTop (mkF m 298 #[.val (.long q1), .second, .val (.long q2), .second, .val (.long q3), .second, .val (.long q4), .second, .val (.int p5), .val (.int p6), .val (.int z8), .val (.int z10), .val (.int z12), .val (.int z14), .val (.int z16), .val (.int w19), .val (.int w23), .val (.int w27), .val (.int w31), .val (.int w35), .val (.ref b37), .val (.ref b85), .val (.int (p6 &&& (3 : Int32))), .val (.int w145)] []))
                refine RunW.go (fun _ k => XS.aload X146.here hx rfl (hb hby at_298) rfl rfl k) ?_
                show RunW p e below s Z own_EL 55 390 (Q_rm0 Z q1 q2 q3 q4 p5 p6 cs h0 n0) (T146.setTop (mkF m 300 #[.val (.long q1), .second, .val (.long q2), .second, .val (.long q3), .second, .val (.long q4), .second, .val (.int p5), .val (.int p6), .val (.int z8), .val (.int z10), .val (.int z12), .val (.int z14), .val (.int z16), .val (.int w19), .val (.int w23), .val (.int w27), .val (.int w31), .val (.int w35), .val (.ref b37), .val (.ref b85), .val (.int (p6 &&& (3 : Int32))), .val (.int w145)] [(.ref b37)]))
                refine RunW.go (fun _ k => XS.aload X146.here hx rfl (hb hby at_300) rfl rfl k) ?_
                show RunW p e below s Z own_EL 55 390 (Q_rm0 Z q1 q2 q3 q4 p5 p6 cs h0 n0) (T146.setTop (mkF m 302 #[.val (.long q1), .second, .val (.long q2), .second, .val (.long q3), .second, .val (.long q4), .second, .val (.int p5), .val (.int p6), .val (.int z8), .val (.int z10), .val (.int z12), .val (.int z14), .val (.int z16), .val (.int w19), .val (.int w23), .val (.int w27), .val (.int w31), .val (.int w35), .val (.ref b37), .val (.ref b85), .val (.int (p6 &&& (3 : Int32))), .val (.int w145)] [(.ref b85), (.ref b37)]))
                have fx148 := (Sta.keep (Sta.keep fx109 K108q all0) K112q (allS (Exa.nst fx113) all0))
                have fx149 := (((((((fq64_0.ext E85).keep K92q).keep K96q).keep K100q).keep K104q).keep K108q).keep K112q)
                have fx150 := (((((((fq64_1.ext E85).keep K92q nin0).keep K96q nin0).keep K100q nin0).keep K104q nin0).keep K108q nin0).keep K112q (ninS ne_b37_b85 nin0))
                have fx151 := (((((((fq64_2.ext E85).keep K92q nin0).keep K96q nin0).keep K100q nin0).keep K104q nin0).keep K108q nin0).keep K112q (ninS ne_b37_b85 nin0))
                have fx152 := (((((((fq64_3.ext E85).keep K92q nin0).keep K96q nin0).keep K100q nin0).keep K104q nin0).keep K108q nin0).keep K112q (ninS ne_b37_b85 nin0))
                have fx153 := (((((((fq64_4.ext E85).keep K92q nin0).keep K96q nin0).keep K100q nin0).keep K104q nin0).keep K108q nin0).keep K112q (ninS ne_b37_b85 nin0))
                have fx154 := (((((((fq64_5.ext E85).keep K92q nin0).keep K96q nin0).keep K100q nin0).keep K104q nin0).keep K108q nin0).keep K112q (ninS ne_b37_b85 nin0))
                have fx155 := ((((((((fx66.keep K64q).ext E85).keep K92q).keep K96q).keep K100q).keep K104q).keep K108q).keep K112q)
                have fx156 := ((((((((fx67.keep K64q).ext E85).keep K92q).keep K96q).keep K100q).keep K104q).keep K108q).keep K112q)
                have fx157 := ((((((((fx68.keep K64q).ext E85).keep K92q).keep K96q).keep K100q).keep K104q).keep K108q).keep K112q)
                have fx158 := ((((((((fx69.keep K64q).ext E85).keep K92q).keep K96q).keep K100q).keep K104q).keep K108q).keep K112q)
                have fx159 := (((((((((SStr.exa fq60_0).keep K64q).ext E85).keep K92q).keep K96q).keep K100q).keep K104q).keep K108q).keep K112q)
                have fx160 := (fx114.keep K112q)
                have fx161 := (fx115.keep K112q)
                have fx162 := (fx116.keep K112q)
                have fx163 := (fx117.keep K112q)
                have fx164 := ((SStr.exa fq108_0).keep K112q)
                obtain ⟨cq147, kq147, q147a, q147b, q147c⟩ := isOf hZ e146 fx149
                obtain ⟨_, _, ⟨T147, L147, k147, n147⟩, -, X147, ⟨Lc147, hQ147, l147, y147, z147⟩, st147⟩ := X146.virtualBack hx (y := (⟨"com/example/subjectory/subjectory/heading/ClassLink", "equals", "(Ljava/lang/Object;)Z"⟩ : MethodName)) (z := (⟨"com/example/subjectory/subjectory/heading/ClassLink", "equals", "(Ljava/lang/Object;)Z"⟩ : MethodName)) hown (mvT hZ (hw _ (List.mem_of_getElem? (i := 88) rfl))) (mvT hZ (hw _ (List.mem_of_getElem? (i := 89) rfl))) (notFace_of_selects (args := #[]) (mvT hZ (hw _ (List.mem_of_getElem? (i := 91) rfl)))) (mvT hZ (hw _ (List.mem_of_getElem? (i := 91) rfl))) (mvT hZ (hw _ (List.mem_of_getElem? (i := 90) rfl))) (by decide) (backOf (W := 0) (rm16 l Z a0 hw [] b37 b85 cs b47 b51 b55 b59 b63 b95 b99 b103 b107 b111 (own_cs z8) (own_cs z10) (own_cs z12) (own_cs z14) (own_cs z16) (own_cs w19) (own_cs w23) (own_cs w27) (own_cs w31) (own_cs w35) T112.heap n0 Z112 fx148 hcs fx149 fx150 fx151 fx152 fx153 fx154 fx155 fx133 fx156 fx134 fx157 fx135 fx158 fx136 fx159 fx137 fq112_0 fq112_1 fq112_2 fq112_3 fq112_4 fq112_5 fx160 fx138 fx161 fx139 fx162 fx140 fx163 fx141 fx164 fx142) hZ (hw _ (List.mem_of_getElem? (i := 92) rfl)) (hw _ (List.mem_of_getElem? (i := 8) rfl)) (by decide) (by decide)) q147a q147c (g := (mkF m 302 #[.val (.long q1), .second, .val (.long q2), .second, .val (.long q3), .second, .val (.long q4), .second, .val (.int p5), .val (.int p6), .val (.int z8), .val (.int z10), .val (.int z12), .val (.int z14), .val (.int z16), .val (.int w19), .val (.int w23), .val (.int w27), .val (.int w31), .val (.int w35), .val (.ref b37), .val (.ref b85), .val (.int (p6 &&& (3 : Int32))), .val (.int w145)] [(.ref b85), (.ref b37)])) rfl (by rw [hml]; rfl) (Steps.refl _) (argsL := [(.ref b85)]) (rest := []) (lenOf pd_7 rfl) rfl (by show 2 * 0 + _ ≤ _; exact Nat.le_of_eq rfl) (hb hby at_302) (fun _ _ => ⟨rfl, e146, (by decide : 52 + 0 ≤ _), (by decide : 378 + 0 ≤ _)⟩)
                dsimp only [Pt.U, Pt.locs, Pt.cells, Pt.slots] at X147 l147 y147 z147 st147 hQ147
                subst l147 y147 z147
                obtain ⟨rfl, N147q, e147q⟩ := hQ147
                have N147 := Fr.app N146 N147q
                obtain ⟨Lg147, Xg147, Ng147⟩ := Stand_gen X147 N147
                refine RunW.tr st147 ?_
                show RunW p e below s Z own_EL 55 390 (Q_rm0 Z q1 q2 q3 q4 p5 p6 cs h0 n0) (T147.setTop (mkF m 305 #[.val (.long q1), .second, .val (.long q2), .second, .val (.long q3), .second, .val (.long q4), .second, .val (.int p5), .val (.int p6), .val (.int z8), .val (.int z10), .val (.int z12), .val (.int z14), .val (.int z16), .val (.int w19), .val (.int w23), .val (.int w27), .val (.int w31), .val (.int w35), .val (.ref b37), .val (.ref b85), .val (.int (p6 &&& (3 : Int32))), .val (.int w145)] [(.int (F_rm16 (own_cs z8) (own_cs z10) (own_cs z12) (own_cs z14) (own_cs z16) (own_cs w19) (own_cs w23) (own_cs w27) (own_cs w31) (own_cs w35)))]))
                refine RunW.go (fun _ k => XS.iload Xg147.here hx rfl (hb hby at_305) rfl  k) ?_
                show RunW p e below s Z own_EL 55 390 (Q_rm0 Z q1 q2 q3 q4 p5 p6 cs h0 n0) (T147.setTop (mkF m 307 #[.val (.long q1), .second, .val (.long q2), .second, .val (.long q3), .second, .val (.long q4), .second, .val (.int p5), .val (.int p6), .val (.int z8), .val (.int z10), .val (.int z12), .val (.int z14), .val (.int z16), .val (.int w19), .val (.int w23), .val (.int w27), .val (.int w31), .val (.int w35), .val (.ref b37), .val (.ref b85), .val (.int (p6 &&& (3 : Int32))), .val (.int w145)] [(.int w145), (.int (F_rm16 (own_cs z8) (own_cs z10) (own_cs z12) (own_cs z14) (own_cs z16) (own_cs w19) (own_cs w23) (own_cs w27) (own_cs w31) (own_cs w35)))]))
                refine RunW.go (fun _ k => XS.icmpNo Xg147.here hx rfl (hb hby at_307) rfl (teq ((own_fin ga0 gb0 ga1 gb1 ga2 gb2 ga3 gb3 ga4 gb4).trans hw145.symm)).2 k) ?_
                show RunW p e below s Z own_EL 55 390 (Q_rm0 Z q1 q2 q3 q4 p5 p6 cs h0 n0) (T147.setTop (mkF m 310 #[.val (.long q1), .second, .val (.long q2), .second, .val (.long q3), .second, .val (.long q4), .second, .val (.int p5), .val (.int p6), .val (.int z8), .val (.int z10), .val (.int z12), .val (.int z14), .val (.int z16), .val (.int w19), .val (.int w23), .val (.int w27), .val (.int w31), .val (.int w35), .val (.ref b37), .val (.ref b85), .val (.int (p6 &&& (3 : Int32))), .val (.int w145)] []))
                refine RunW.go (fun _ k => XS.iconst Xg147.here hx rfl (hb hby at_310) k) ?_
                show RunW p e below s Z own_EL 55 390 (Q_rm0 Z q1 q2 q3 q4 p5 p6 cs h0 n0) (T147.setTop (mkF m 311 #[.val (.long q1), .second, .val (.long q2), .second, .val (.long q3), .second, .val (.long q4), .second, .val (.int p5), .val (.int p6), .val (.int z8), .val (.int z10), .val (.int z12), .val (.int z14), .val (.int z16), .val (.int w19), .val (.int w23), .val (.int w27), .val (.int w31), .val (.int w35), .val (.ref b37), .val (.ref b85), .val (.int (p6 &&& (3 : Int32))), .val (.int w145)] [(.int (1 : Int32))]))
                refine RunW.go (fun _ k => XS.goto Xg147.here hx rfl (pc0 := 311) (pc' := 315) rfl (hb hby at_311) (by decide) (by decide) k) ?_
                show RunW p e below s Z own_EL 55 390 (Q_rm0 Z q1 q2 q3 q4 p5 p6 cs h0 n0) (T147.setTop (mkF m 315 #[.val (.long q1), .second, .val (.long q2), .second, .val (.long q3), .second, .val (.long q4), .second, .val (.int p5), .val (.int p6), .val (.int z8), .val (.int z10), .val (.int z12), .val (.int z14), .val (.int z16), .val (.int w19), .val (.int w23), .val (.int w27), .val (.int w31), .val (.int w35), .val (.ref b37), .val (.ref b85), .val (.int (p6 &&& (3 : Int32))), .val (.int w145)] [(.int (1 : Int32))]))
                exact RunW.retN (y := 1) Xg147 hx hZ (own_ew hw) hS hk e147q C132 (t := .boolean) Bd.returns (by simp) rfl Bd.notSynchronized (hb hby at_315) (by decide) (by decide) ⟨rfl, Ng147⟩
              by_cases hc165 : (z8 = w19)
              · refine RunW.go (fun _ k => XS.icmpNo Xg112.here hx rfl (hb hby at_260) rfl (teq hc165).2 k) ?_
                show RunW p e below s Z own_EL 55 390 (Q_rm0 Z q1 q2 q3 q4 p5 p6 cs h0 n0) (T112.setTop (mkF m 263 #[.val (.long q1), .second, .val (.long q2), .second, .val (.long q3), .second, .val (.long q4), .second, .val (.int p5), .val (.int p6), .val (.int z8), .val (.int z10), .val (.int z12), .val (.int z14), .val (.int z16), .val (.int w19), .val (.int w23), .val (.int w27), .val (.int w31), .val (.int w35), .val (.ref b37), .val (.ref b85), .val (.int (p6 &&& (3 : Int32))), .unset] []))
                refine RunW.go (fun _ k => XS.iload Xg112.here hx rfl (hb hby at_263) rfl  k) ?_
                show RunW p e below s Z own_EL 55 390 (Q_rm0 Z q1 q2 q3 q4 p5 p6 cs h0 n0) (T112.setTop (mkF m 265 #[.val (.long q1), .second, .val (.long q2), .second, .val (.long q3), .second, .val (.long q4), .second, .val (.int p5), .val (.int p6), .val (.int z8), .val (.int z10), .val (.int z12), .val (.int z14), .val (.int z16), .val (.int w19), .val (.int w23), .val (.int w27), .val (.int w31), .val (.int w35), .val (.ref b37), .val (.ref b85), .val (.int (p6 &&& (3 : Int32))), .unset] [(.int z10)]))
                refine RunW.go (fun _ k => XS.iload Xg112.here hx rfl (hb hby at_265) rfl  k) ?_
                show RunW p e below s Z own_EL 55 390 (Q_rm0 Z q1 q2 q3 q4 p5 p6 cs h0 n0) (T112.setTop (mkF m 267 #[.val (.long q1), .second, .val (.long q2), .second, .val (.long q3), .second, .val (.long q4), .second, .val (.int p5), .val (.int p6), .val (.int z8), .val (.int z10), .val (.int z12), .val (.int z14), .val (.int z16), .val (.int w19), .val (.int w23), .val (.int w27), .val (.int w31), .val (.int w35), .val (.ref b37), .val (.ref b85), .val (.int (p6 &&& (3 : Int32))), .unset] [(.int w23), (.int z10)]))
                by_cases hc166 : (z10 = w23)
                · refine RunW.go (fun _ k => XS.icmpNo Xg112.here hx rfl (hb hby at_267) rfl (teq hc166).2 k) ?_
                  show RunW p e below s Z own_EL 55 390 (Q_rm0 Z q1 q2 q3 q4 p5 p6 cs h0 n0) (T112.setTop (mkF m 270 #[.val (.long q1), .second, .val (.long q2), .second, .val (.long q3), .second, .val (.long q4), .second, .val (.int p5), .val (.int p6), .val (.int z8), .val (.int z10), .val (.int z12), .val (.int z14), .val (.int z16), .val (.int w19), .val (.int w23), .val (.int w27), .val (.int w31), .val (.int w35), .val (.ref b37), .val (.ref b85), .val (.int (p6 &&& (3 : Int32))), .unset] []))
                  refine RunW.go (fun _ k => XS.iload Xg112.here hx rfl (hb hby at_270) rfl  k) ?_
                  show RunW p e below s Z own_EL 55 390 (Q_rm0 Z q1 q2 q3 q4 p5 p6 cs h0 n0) (T112.setTop (mkF m 272 #[.val (.long q1), .second, .val (.long q2), .second, .val (.long q3), .second, .val (.long q4), .second, .val (.int p5), .val (.int p6), .val (.int z8), .val (.int z10), .val (.int z12), .val (.int z14), .val (.int z16), .val (.int w19), .val (.int w23), .val (.int w27), .val (.int w31), .val (.int w35), .val (.ref b37), .val (.ref b85), .val (.int (p6 &&& (3 : Int32))), .unset] [(.int z12)]))
                  refine RunW.go (fun _ k => XS.iload Xg112.here hx rfl (hb hby at_272) rfl  k) ?_
                  show RunW p e below s Z own_EL 55 390 (Q_rm0 Z q1 q2 q3 q4 p5 p6 cs h0 n0) (T112.setTop (mkF m 274 #[.val (.long q1), .second, .val (.long q2), .second, .val (.long q3), .second, .val (.long q4), .second, .val (.int p5), .val (.int p6), .val (.int z8), .val (.int z10), .val (.int z12), .val (.int z14), .val (.int z16), .val (.int w19), .val (.int w23), .val (.int w27), .val (.int w31), .val (.int w35), .val (.ref b37), .val (.ref b85), .val (.int (p6 &&& (3 : Int32))), .unset] [(.int w27), (.int z12)]))
                  by_cases hc167 : (z12 = w27)
                  · refine RunW.go (fun _ k => XS.icmpNo Xg112.here hx rfl (hb hby at_274) rfl (teq hc167).2 k) ?_
                    show RunW p e below s Z own_EL 55 390 (Q_rm0 Z q1 q2 q3 q4 p5 p6 cs h0 n0) (T112.setTop (mkF m 277 #[.val (.long q1), .second, .val (.long q2), .second, .val (.long q3), .second, .val (.long q4), .second, .val (.int p5), .val (.int p6), .val (.int z8), .val (.int z10), .val (.int z12), .val (.int z14), .val (.int z16), .val (.int w19), .val (.int w23), .val (.int w27), .val (.int w31), .val (.int w35), .val (.ref b37), .val (.ref b85), .val (.int (p6 &&& (3 : Int32))), .unset] []))
                    refine RunW.go (fun _ k => XS.iload Xg112.here hx rfl (hb hby at_277) rfl  k) ?_
                    show RunW p e below s Z own_EL 55 390 (Q_rm0 Z q1 q2 q3 q4 p5 p6 cs h0 n0) (T112.setTop (mkF m 279 #[.val (.long q1), .second, .val (.long q2), .second, .val (.long q3), .second, .val (.long q4), .second, .val (.int p5), .val (.int p6), .val (.int z8), .val (.int z10), .val (.int z12), .val (.int z14), .val (.int z16), .val (.int w19), .val (.int w23), .val (.int w27), .val (.int w31), .val (.int w35), .val (.ref b37), .val (.ref b85), .val (.int (p6 &&& (3 : Int32))), .unset] [(.int z14)]))
                    refine RunW.go (fun _ k => XS.iload Xg112.here hx rfl (hb hby at_279) rfl  k) ?_
                    show RunW p e below s Z own_EL 55 390 (Q_rm0 Z q1 q2 q3 q4 p5 p6 cs h0 n0) (T112.setTop (mkF m 281 #[.val (.long q1), .second, .val (.long q2), .second, .val (.long q3), .second, .val (.long q4), .second, .val (.int p5), .val (.int p6), .val (.int z8), .val (.int z10), .val (.int z12), .val (.int z14), .val (.int z16), .val (.int w19), .val (.int w23), .val (.int w27), .val (.int w31), .val (.int w35), .val (.ref b37), .val (.ref b85), .val (.int (p6 &&& (3 : Int32))), .unset] [(.int w31), (.int z14)]))
                    by_cases hc168 : (z14 = w31)
                    · refine RunW.go (fun _ k => XS.icmpNo Xg112.here hx rfl (hb hby at_281) rfl (teq hc168).2 k) ?_
                      show RunW p e below s Z own_EL 55 390 (Q_rm0 Z q1 q2 q3 q4 p5 p6 cs h0 n0) (T112.setTop (mkF m 284 #[.val (.long q1), .second, .val (.long q2), .second, .val (.long q3), .second, .val (.long q4), .second, .val (.int p5), .val (.int p6), .val (.int z8), .val (.int z10), .val (.int z12), .val (.int z14), .val (.int z16), .val (.int w19), .val (.int w23), .val (.int w27), .val (.int w31), .val (.int w35), .val (.ref b37), .val (.ref b85), .val (.int (p6 &&& (3 : Int32))), .unset] []))
                      refine RunW.go (fun _ k => XS.iload Xg112.here hx rfl (hb hby at_284) rfl  k) ?_
                      show RunW p e below s Z own_EL 55 390 (Q_rm0 Z q1 q2 q3 q4 p5 p6 cs h0 n0) (T112.setTop (mkF m 286 #[.val (.long q1), .second, .val (.long q2), .second, .val (.long q3), .second, .val (.long q4), .second, .val (.int p5), .val (.int p6), .val (.int z8), .val (.int z10), .val (.int z12), .val (.int z14), .val (.int z16), .val (.int w19), .val (.int w23), .val (.int w27), .val (.int w31), .val (.int w35), .val (.ref b37), .val (.ref b85), .val (.int (p6 &&& (3 : Int32))), .unset] [(.int z16)]))
                      refine RunW.go (fun _ k => XS.iload Xg112.here hx rfl (hb hby at_286) rfl  k) ?_
                      show RunW p e below s Z own_EL 55 390 (Q_rm0 Z q1 q2 q3 q4 p5 p6 cs h0 n0) (T112.setTop (mkF m 288 #[.val (.long q1), .second, .val (.long q2), .second, .val (.long q3), .second, .val (.long q4), .second, .val (.int p5), .val (.int p6), .val (.int z8), .val (.int z10), .val (.int z12), .val (.int z14), .val (.int z16), .val (.int w19), .val (.int w23), .val (.int w27), .val (.int w31), .val (.int w35), .val (.ref b37), .val (.ref b85), .val (.int (p6 &&& (3 : Int32))), .unset] [(.int w35), (.int z16)]))
                      by_cases hc169 : (z16 = w35)
                      · refine RunW.go (fun _ k => XS.icmpNo Xg112.here hx rfl (hb hby at_288) rfl (teq hc169).2 k) ?_
                        show RunW p e below s Z own_EL 55 390 (Q_rm0 Z q1 q2 q3 q4 p5 p6 cs h0 n0) (T112.setTop (mkF m 291 #[.val (.long q1), .second, .val (.long q2), .second, .val (.long q3), .second, .val (.long q4), .second, .val (.int p5), .val (.int p6), .val (.int z8), .val (.int z10), .val (.int z12), .val (.int z14), .val (.int z16), .val (.int w19), .val (.int w23), .val (.int w27), .val (.int w31), .val (.int w35), .val (.ref b37), .val (.ref b85), .val (.int (p6 &&& (3 : Int32))), .unset] []))
                        refine RunW.go (fun _ k => XS.iconst Xg112.here hx rfl (hb hby at_291) k) ?_
                        show RunW p e below s Z own_EL 55 390 (Q_rm0 Z q1 q2 q3 q4 p5 p6 cs h0 n0) (T112.setTop (mkF m 292 #[.val (.long q1), .second, .val (.long q2), .second, .val (.long q3), .second, .val (.long q4), .second, .val (.int p5), .val (.int p6), .val (.int z8), .val (.int z10), .val (.int z12), .val (.int z14), .val (.int z16), .val (.int w19), .val (.int w23), .val (.int w27), .val (.int w31), .val (.int w35), .val (.ref b37), .val (.ref b85), .val (.int (p6 &&& (3 : Int32))), .unset] [(.int (1 : Int32))]))
                        refine RunW.go (fun _ k => XS.goto Xg112.here hx rfl (pc0 := 292) (pc' := 296) rfl (hb hby at_292) (by decide) (by decide) k) ?_
                        show RunW p e below s Z own_EL 55 390 (Q_rm0 Z q1 q2 q3 q4 p5 p6 cs h0 n0) (T112.setTop (mkF m 296 #[.val (.long q1), .second, .val (.long q2), .second, .val (.long q3), .second, .val (.long q4), .second, .val (.int p5), .val (.int p6), .val (.int z8), .val (.int z10), .val (.int z12), .val (.int z14), .val (.int z16), .val (.int w19), .val (.int w23), .val (.int w27), .val (.int w31), .val (.int w35), .val (.ref b37), .val (.ref b85), .val (.int (p6 &&& (3 : Int32))), .unset] [(.int (1 : Int32))]))
                        exact J144 _ (if_pos ⟨hc165, ⟨hc166, ⟨hc167, ⟨hc168, hc169⟩⟩⟩⟩).symm _ _ Xg112 rfl Ng112
                      · refine RunW.go (fun _ k => XS.icmpYes Xg112.here hx rfl (pc0 := 288) (pc' := 295) rfl (hb hby at_288) rfl (feq hc169).2 (by decide) (by decide) k) ?_
                        show RunW p e below s Z own_EL 55 390 (Q_rm0 Z q1 q2 q3 q4 p5 p6 cs h0 n0) (T112.setTop (mkF m 295 #[.val (.long q1), .second, .val (.long q2), .second, .val (.long q3), .second, .val (.long q4), .second, .val (.int p5), .val (.int p6), .val (.int z8), .val (.int z10), .val (.int z12), .val (.int z14), .val (.int z16), .val (.int w19), .val (.int w23), .val (.int w27), .val (.int w31), .val (.int w35), .val (.ref b37), .val (.ref b85), .val (.int (p6 &&& (3 : Int32))), .unset] []))
                        refine RunW.go (fun _ k => XS.iconst Xg112.here hx rfl (hb hby at_295) k) ?_
                        show RunW p e below s Z own_EL 55 390 (Q_rm0 Z q1 q2 q3 q4 p5 p6 cs h0 n0) (T112.setTop (mkF m 296 #[.val (.long q1), .second, .val (.long q2), .second, .val (.long q3), .second, .val (.long q4), .second, .val (.int p5), .val (.int p6), .val (.int z8), .val (.int z10), .val (.int z12), .val (.int z14), .val (.int z16), .val (.int w19), .val (.int w23), .val (.int w27), .val (.int w31), .val (.int w35), .val (.ref b37), .val (.ref b85), .val (.int (p6 &&& (3 : Int32))), .unset] [(.int (0 : Int32))]))
                        exact J144 _ (if_neg (fun q => (fun q => (fun q => (fun q => hc169 q.2) q.2) q.2) q.2)).symm _ _ Xg112 rfl Ng112
                    · refine RunW.go (fun _ k => XS.icmpYes Xg112.here hx rfl (pc0 := 281) (pc' := 295) rfl (hb hby at_281) rfl (feq hc168).2 (by decide) (by decide) k) ?_
                      show RunW p e below s Z own_EL 55 390 (Q_rm0 Z q1 q2 q3 q4 p5 p6 cs h0 n0) (T112.setTop (mkF m 295 #[.val (.long q1), .second, .val (.long q2), .second, .val (.long q3), .second, .val (.long q4), .second, .val (.int p5), .val (.int p6), .val (.int z8), .val (.int z10), .val (.int z12), .val (.int z14), .val (.int z16), .val (.int w19), .val (.int w23), .val (.int w27), .val (.int w31), .val (.int w35), .val (.ref b37), .val (.ref b85), .val (.int (p6 &&& (3 : Int32))), .unset] []))
                      refine RunW.go (fun _ k => XS.iconst Xg112.here hx rfl (hb hby at_295) k) ?_
                      show RunW p e below s Z own_EL 55 390 (Q_rm0 Z q1 q2 q3 q4 p5 p6 cs h0 n0) (T112.setTop (mkF m 296 #[.val (.long q1), .second, .val (.long q2), .second, .val (.long q3), .second, .val (.long q4), .second, .val (.int p5), .val (.int p6), .val (.int z8), .val (.int z10), .val (.int z12), .val (.int z14), .val (.int z16), .val (.int w19), .val (.int w23), .val (.int w27), .val (.int w31), .val (.int w35), .val (.ref b37), .val (.ref b85), .val (.int (p6 &&& (3 : Int32))), .unset] [(.int (0 : Int32))]))
                      exact J144 _ (if_neg (fun q => (fun q => (fun q => (fun q => hc168 q.1) q.2) q.2) q.2)).symm _ _ Xg112 rfl Ng112
                  · refine RunW.go (fun _ k => XS.icmpYes Xg112.here hx rfl (pc0 := 274) (pc' := 295) rfl (hb hby at_274) rfl (feq hc167).2 (by decide) (by decide) k) ?_
                    show RunW p e below s Z own_EL 55 390 (Q_rm0 Z q1 q2 q3 q4 p5 p6 cs h0 n0) (T112.setTop (mkF m 295 #[.val (.long q1), .second, .val (.long q2), .second, .val (.long q3), .second, .val (.long q4), .second, .val (.int p5), .val (.int p6), .val (.int z8), .val (.int z10), .val (.int z12), .val (.int z14), .val (.int z16), .val (.int w19), .val (.int w23), .val (.int w27), .val (.int w31), .val (.int w35), .val (.ref b37), .val (.ref b85), .val (.int (p6 &&& (3 : Int32))), .unset] []))
                    refine RunW.go (fun _ k => XS.iconst Xg112.here hx rfl (hb hby at_295) k) ?_
                    show RunW p e below s Z own_EL 55 390 (Q_rm0 Z q1 q2 q3 q4 p5 p6 cs h0 n0) (T112.setTop (mkF m 296 #[.val (.long q1), .second, .val (.long q2), .second, .val (.long q3), .second, .val (.long q4), .second, .val (.int p5), .val (.int p6), .val (.int z8), .val (.int z10), .val (.int z12), .val (.int z14), .val (.int z16), .val (.int w19), .val (.int w23), .val (.int w27), .val (.int w31), .val (.int w35), .val (.ref b37), .val (.ref b85), .val (.int (p6 &&& (3 : Int32))), .unset] [(.int (0 : Int32))]))
                    exact J144 _ (if_neg (fun q => (fun q => (fun q => hc167 q.1) q.2) q.2)).symm _ _ Xg112 rfl Ng112
                · refine RunW.go (fun _ k => XS.icmpYes Xg112.here hx rfl (pc0 := 267) (pc' := 295) rfl (hb hby at_267) rfl (feq hc166).2 (by decide) (by decide) k) ?_
                  show RunW p e below s Z own_EL 55 390 (Q_rm0 Z q1 q2 q3 q4 p5 p6 cs h0 n0) (T112.setTop (mkF m 295 #[.val (.long q1), .second, .val (.long q2), .second, .val (.long q3), .second, .val (.long q4), .second, .val (.int p5), .val (.int p6), .val (.int z8), .val (.int z10), .val (.int z12), .val (.int z14), .val (.int z16), .val (.int w19), .val (.int w23), .val (.int w27), .val (.int w31), .val (.int w35), .val (.ref b37), .val (.ref b85), .val (.int (p6 &&& (3 : Int32))), .unset] []))
                  refine RunW.go (fun _ k => XS.iconst Xg112.here hx rfl (hb hby at_295) k) ?_
                  show RunW p e below s Z own_EL 55 390 (Q_rm0 Z q1 q2 q3 q4 p5 p6 cs h0 n0) (T112.setTop (mkF m 296 #[.val (.long q1), .second, .val (.long q2), .second, .val (.long q3), .second, .val (.long q4), .second, .val (.int p5), .val (.int p6), .val (.int z8), .val (.int z10), .val (.int z12), .val (.int z14), .val (.int z16), .val (.int w19), .val (.int w23), .val (.int w27), .val (.int w31), .val (.int w35), .val (.ref b37), .val (.ref b85), .val (.int (p6 &&& (3 : Int32))), .unset] [(.int (0 : Int32))]))
                  exact J144 _ (if_neg (fun q => (fun q => hc166 q.1) q.2)).symm _ _ Xg112 rfl Ng112
              · refine RunW.go (fun _ k => XS.icmpYes Xg112.here hx rfl (pc0 := 260) (pc' := 295) rfl (hb hby at_260) rfl (feq hc165).2 (by decide) (by decide) k) ?_
                show RunW p e below s Z own_EL 55 390 (Q_rm0 Z q1 q2 q3 q4 p5 p6 cs h0 n0) (T112.setTop (mkF m 295 #[.val (.long q1), .second, .val (.long q2), .second, .val (.long q3), .second, .val (.long q4), .second, .val (.int p5), .val (.int p6), .val (.int z8), .val (.int z10), .val (.int z12), .val (.int z14), .val (.int z16), .val (.int w19), .val (.int w23), .val (.int w27), .val (.int w31), .val (.int w35), .val (.ref b37), .val (.ref b85), .val (.int (p6 &&& (3 : Int32))), .unset] []))
                refine RunW.go (fun _ k => XS.iconst Xg112.here hx rfl (hb hby at_295) k) ?_
                show RunW p e below s Z own_EL 55 390 (Q_rm0 Z q1 q2 q3 q4 p5 p6 cs h0 n0) (T112.setTop (mkF m 296 #[.val (.long q1), .second, .val (.long q2), .second, .val (.long q3), .second, .val (.long q4), .second, .val (.int p5), .val (.int p6), .val (.int z8), .val (.int z10), .val (.int z12), .val (.int z14), .val (.int z16), .val (.int w19), .val (.int w23), .val (.int w27), .val (.int w31), .val (.int w35), .val (.ref b37), .val (.ref b85), .val (.int (p6 &&& (3 : Int32))), .unset] [(.int (0 : Int32))]))
                exact J144 _ (if_neg (fun q => hc165 q.1)).symm _ _ Xg112 rfl Ng112
            · refine RunW.go (fun _ k => XS.ifYes Xg112.here hx rfl (pc0 := 253) (pc' := 316) rfl (hb hby at_253) rfl ((if0 _ _).trans (feq hc143).2) (by decide) (by decide) k) ?_
              show RunW p e below s Z own_EL 55 390 (Q_rm0 Z q1 q2 q3 q4 p5 p6 cs h0 n0) (T112.setTop (mkF m 316 #[.val (.long q1), .second, .val (.long q2), .second, .val (.long q3), .second, .val (.long q4), .second, .val (.int p5), .val (.int p6), .val (.int z8), .val (.int z10), .val (.int z12), .val (.int z14), .val (.int z16), .val (.int w19), .val (.int w23), .val (.int w27), .val (.int w31), .val (.int w35), .val (.ref b37), .val (.ref b85), .val (.int (p6 &&& (3 : Int32))), .unset] []))
              refine RunW.go (fun _ k => XS.iload Xg112.here hx rfl (hb hby at_316) rfl  k) ?_
              show RunW p e below s Z own_EL 55 390 (Q_rm0 Z q1 q2 q3 q4 p5 p6 cs h0 n0) (T112.setTop (mkF m 318 #[.val (.long q1), .second, .val (.long q2), .second, .val (.long q3), .second, .val (.long q4), .second, .val (.int p5), .val (.int p6), .val (.int z8), .val (.int z10), .val (.int z12), .val (.int z14), .val (.int z16), .val (.int w19), .val (.int w23), .val (.int w27), .val (.int w31), .val (.int w35), .val (.ref b37), .val (.ref b85), .val (.int (p6 &&& (3 : Int32))), .unset] [(.int (p6 &&& (3 : Int32)))]))
              refine RunW.go (fun _ k => XS.iconst Xg112.here hx rfl (hb hby at_318) k) ?_
              show RunW p e below s Z own_EL 55 390 (Q_rm0 Z q1 q2 q3 q4 p5 p6 cs h0 n0) (T112.setTop (mkF m 319 #[.val (.long q1), .second, .val (.long q2), .second, .val (.long q3), .second, .val (.long q4), .second, .val (.int p5), .val (.int p6), .val (.int z8), .val (.int z10), .val (.int z12), .val (.int z14), .val (.int z16), .val (.int w19), .val (.int w23), .val (.int w27), .val (.int w31), .val (.int w35), .val (.ref b37), .val (.ref b85), .val (.int (p6 &&& (3 : Int32))), .unset] [(.int (1 : Int32)), (.int (p6 &&& (3 : Int32)))]))
              by_cases hc170 : ((p6 &&& (3 : Int32)) = (1 : Int32))
              · refine RunW.go (fun _ k => XS.icmpNo Xg112.here hx rfl (hb hby at_319) rfl (teq hc170).2 k) ?_
                show RunW p e below s Z own_EL 55 390 (Q_rm0 Z q1 q2 q3 q4 p5 p6 cs h0 n0) (T112.setTop (mkF m 322 #[.val (.long q1), .second, .val (.long q2), .second, .val (.long q3), .second, .val (.long q4), .second, .val (.int p5), .val (.int p6), .val (.int z8), .val (.int z10), .val (.int z12), .val (.int z14), .val (.int z16), .val (.int w19), .val (.int w23), .val (.int w27), .val (.int w31), .val (.int w35), .val (.ref b37), .val (.ref b85), .val (.int (p6 &&& (3 : Int32))), .unset] []))
                refine RunW.go (fun _ k => XS.aload Xg112.here hx rfl (hb hby at_322) rfl rfl k) ?_
                show RunW p e below s Z own_EL 55 390 (Q_rm0 Z q1 q2 q3 q4 p5 p6 cs h0 n0) (T112.setTop (mkF m 324 #[.val (.long q1), .second, .val (.long q2), .second, .val (.long q3), .second, .val (.long q4), .second, .val (.int p5), .val (.int p6), .val (.int z8), .val (.int z10), .val (.int z12), .val (.int z14), .val (.int z16), .val (.int w19), .val (.int w23), .val (.int w27), .val (.int w31), .val (.int w35), .val (.ref b37), .val (.ref b85), .val (.int (p6 &&& (3 : Int32))), .unset] [(.ref b37)]))
                refine RunW.go (fun _ k => XS.aconstNull Xg112.here hx rfl (hb hby at_324) k) ?_
                show RunW p e below s Z own_EL 55 390 (Q_rm0 Z q1 q2 q3 q4 p5 p6 cs h0 n0) (T112.setTop (mkF m 325 #[.val (.long q1), .second, .val (.long q2), .second, .val (.long q3), .second, .val (.long q4), .second, .val (.int p5), .val (.int p6), .val (.int z8), .val (.int z10), .val (.int z12), .val (.int z14), .val (.int z16), .val (.int w19), .val (.int w23), .val (.int w27), .val (.int w31), .val (.int w35), .val (.ref b37), .val (.ref b85), .val (.int (p6 &&& (3 : Int32))), .unset] [.null, (.ref b37)]))
                have fx172 := (((((((fq64_0.ext E85).keep K92q).keep K96q).keep K100q).keep K104q).keep K108q).keep K112q)
                obtain ⟨cq171, kq171, q171a, q171b, q171c⟩ := isOf hZ rfl fx172
                obtain ⟨_, _, ⟨T171, L171, k171, n171⟩, -, X171, ⟨Lc171, hQ171, l171, y171, z171⟩, st171⟩ := Xg112.virtualBack hx (y := (⟨"com/example/subjectory/subjectory/heading/ClassLink", "equals", "(Ljava/lang/Object;)Z"⟩ : MethodName)) (z := (⟨"com/example/subjectory/subjectory/heading/ClassLink", "equals", "(Ljava/lang/Object;)Z"⟩ : MethodName)) hown (mvT hZ (hw _ (List.mem_of_getElem? (i := 88) rfl))) (mvT hZ (hw _ (List.mem_of_getElem? (i := 89) rfl))) (notFace_of_selects (args := #[]) (mvT hZ (hw _ (List.mem_of_getElem? (i := 91) rfl)))) (mvT hZ (hw _ (List.mem_of_getElem? (i := 91) rfl))) (mvT hZ (hw _ (List.mem_of_getElem? (i := 90) rfl))) (by decide) (backOf (W := 0) (rm16n l Z a0 hw [] b37 T112.heap n0 Z112 ) hZ (hw _ (List.mem_of_getElem? (i := 92) rfl)) (hw _ (List.mem_of_getElem? (i := 8) rfl)) (by decide) (by decide)) q171a q171c (g := (mkF m 325 #[.val (.long q1), .second, .val (.long q2), .second, .val (.long q3), .second, .val (.long q4), .second, .val (.int p5), .val (.int p6), .val (.int z8), .val (.int z10), .val (.int z12), .val (.int z14), .val (.int z16), .val (.int w19), .val (.int w23), .val (.int w27), .val (.int w31), .val (.int w35), .val (.ref b37), .val (.ref b85), .val (.int (p6 &&& (3 : Int32))), .unset] [.null, (.ref b37)])) rfl (by rw [hml]; rfl) (Steps.refl _) (argsL := [.null]) (rest := []) (lenOf pd_7 rfl) rfl (by show 2 * 0 + _ ≤ _; exact Nat.le_of_eq rfl) (hb hby at_325) (fun _ _ => ⟨rfl, rfl, (by decide : 52 + 0 ≤ _), (by decide : 378 + 0 ≤ _)⟩)
                dsimp only [Pt.U, Pt.locs, Pt.cells, Pt.slots] at X171 l171 y171 z171 st171 hQ171
                subst l171 y171 z171
                obtain ⟨rfl, N171q, e171q⟩ := hQ171
                have N171 := Fr.app Ng112 N171q
                obtain ⟨Lg171, Xg171, Ng171⟩ := Stand_gen X171 N171
                refine RunW.tr st171 ?_
                show RunW p e below s Z own_EL 55 390 (Q_rm0 Z q1 q2 q3 q4 p5 p6 cs h0 n0) (T171.setTop (mkF m 328 #[.val (.long q1), .second, .val (.long q2), .second, .val (.long q3), .second, .val (.long q4), .second, .val (.int p5), .val (.int p6), .val (.int z8), .val (.int z10), .val (.int z12), .val (.int z14), .val (.int z16), .val (.int w19), .val (.int w23), .val (.int w27), .val (.int w31), .val (.int w35), .val (.ref b37), .val (.ref b85), .val (.int (p6 &&& (3 : Int32))), .unset] [(.int (0 : Int32))]))
                refine RunW.go (fun _ k => XS.ifNo Xg171.here hx rfl (hb hby at_328) rfl ((if0 _ _).trans (teq (rfl : (0 : Int32) = (0 : Int32))).2) k) ?_
                show RunW p e below s Z own_EL 55 390 (Q_rm0 Z q1 q2 q3 q4 p5 p6 cs h0 n0) (T171.setTop (mkF m 331 #[.val (.long q1), .second, .val (.long q2), .second, .val (.long q3), .second, .val (.long q4), .second, .val (.int p5), .val (.int p6), .val (.int z8), .val (.int z10), .val (.int z12), .val (.int z14), .val (.int z16), .val (.int w19), .val (.int w23), .val (.int w27), .val (.int w31), .val (.int w35), .val (.ref b37), .val (.ref b85), .val (.int (p6 &&& (3 : Int32))), .unset] []))
                refine RunW.go (fun _ k => XS.iconst Xg171.here hx rfl (hb hby at_331) k) ?_
                show RunW p e below s Z own_EL 55 390 (Q_rm0 Z q1 q2 q3 q4 p5 p6 cs h0 n0) (T171.setTop (mkF m 332 #[.val (.long q1), .second, .val (.long q2), .second, .val (.long q3), .second, .val (.long q4), .second, .val (.int p5), .val (.int p6), .val (.int z8), .val (.int z10), .val (.int z12), .val (.int z14), .val (.int z16), .val (.int w19), .val (.int w23), .val (.int w27), .val (.int w31), .val (.int w35), .val (.ref b37), .val (.ref b85), .val (.int (p6 &&& (3 : Int32))), .unset] [(.int (1 : Int32))]))
                refine RunW.go (fun _ k => XS.goto Xg171.here hx rfl (pc0 := 332) (pc' := 336) rfl (hb hby at_332) (by decide) (by decide) k) ?_
                show RunW p e below s Z own_EL 55 390 (Q_rm0 Z q1 q2 q3 q4 p5 p6 cs h0 n0) (T171.setTop (mkF m 336 #[.val (.long q1), .second, .val (.long q2), .second, .val (.long q3), .second, .val (.long q4), .second, .val (.int p5), .val (.int p6), .val (.int z8), .val (.int z10), .val (.int z12), .val (.int z14), .val (.int z16), .val (.int w19), .val (.int w23), .val (.int w27), .val (.int w31), .val (.int w35), .val (.ref b37), .val (.ref b85), .val (.int (p6 &&& (3 : Int32))), .unset] [(.int (1 : Int32))]))
                exact RunW.retN (y := 1) Xg171 hx hZ (own_ew hw) hS hk e171q C132 (t := .boolean) Bd.returns (by simp) rfl Bd.notSynchronized (hb hby at_336) (by decide) (by decide) ⟨rfl, Ng171⟩
              · refine RunW.go (fun _ k => XS.icmpYes Xg112.here hx rfl (pc0 := 319) (pc' := 337) rfl (hb hby at_319) rfl (feq hc170).2 (by decide) (by decide) k) ?_
                show RunW p e below s Z own_EL 55 390 (Q_rm0 Z q1 q2 q3 q4 p5 p6 cs h0 n0) (T112.setTop (mkF m 337 #[.val (.long q1), .second, .val (.long q2), .second, .val (.long q3), .second, .val (.long q4), .second, .val (.int p5), .val (.int p6), .val (.int z8), .val (.int z10), .val (.int z12), .val (.int z14), .val (.int z16), .val (.int w19), .val (.int w23), .val (.int w27), .val (.int w31), .val (.int w35), .val (.ref b37), .val (.ref b85), .val (.int (p6 &&& (3 : Int32))), .unset] []))
                refine RunW.go (fun _ k => XS.iload Xg112.here hx rfl (hb hby at_337) rfl  k) ?_
                show RunW p e below s Z own_EL 55 390 (Q_rm0 Z q1 q2 q3 q4 p5 p6 cs h0 n0) (T112.setTop (mkF m 339 #[.val (.long q1), .second, .val (.long q2), .second, .val (.long q3), .second, .val (.long q4), .second, .val (.int p5), .val (.int p6), .val (.int z8), .val (.int z10), .val (.int z12), .val (.int z14), .val (.int z16), .val (.int w19), .val (.int w23), .val (.int w27), .val (.int w31), .val (.int w35), .val (.ref b37), .val (.ref b85), .val (.int (p6 &&& (3 : Int32))), .unset] [(.int (p6 &&& (3 : Int32)))]))
                refine RunW.go (fun _ k => XS.iconst Xg112.here hx rfl (hb hby at_339) k) ?_
                show RunW p e below s Z own_EL 55 390 (Q_rm0 Z q1 q2 q3 q4 p5 p6 cs h0 n0) (T112.setTop (mkF m 340 #[.val (.long q1), .second, .val (.long q2), .second, .val (.long q3), .second, .val (.long q4), .second, .val (.int p5), .val (.int p6), .val (.int z8), .val (.int z10), .val (.int z12), .val (.int z14), .val (.int z16), .val (.int w19), .val (.int w23), .val (.int w27), .val (.int w31), .val (.int w35), .val (.ref b37), .val (.ref b85), .val (.int (p6 &&& (3 : Int32))), .unset] [(.int (2 : Int32)), (.int (p6 &&& (3 : Int32)))]))
                by_cases hc173 : ((p6 &&& (3 : Int32)) = (2 : Int32))
                · refine RunW.go (fun _ k => XS.icmpNo Xg112.here hx rfl (hb hby at_340) rfl (teq hc173).2 k) ?_
                  show RunW p e below s Z own_EL 55 390 (Q_rm0 Z q1 q2 q3 q4 p5 p6 cs h0 n0) (T112.setTop (mkF m 343 #[.val (.long q1), .second, .val (.long q2), .second, .val (.long q3), .second, .val (.long q4), .second, .val (.int p5), .val (.int p6), .val (.int z8), .val (.int z10), .val (.int z12), .val (.int z14), .val (.int z16), .val (.int w19), .val (.int w23), .val (.int w27), .val (.int w31), .val (.int w35), .val (.ref b37), .val (.ref b85), .val (.int (p6 &&& (3 : Int32))), .unset] []))
                  refine RunW.go (fun _ k => XS.iload Xg112.here hx rfl (hb hby at_343) rfl  k) ?_
                  show RunW p e below s Z own_EL 55 390 (Q_rm0 Z q1 q2 q3 q4 p5 p6 cs h0 n0) (T112.setTop (mkF m 345 #[.val (.long q1), .second, .val (.long q2), .second, .val (.long q3), .second, .val (.long q4), .second, .val (.int p5), .val (.int p6), .val (.int z8), .val (.int z10), .val (.int z12), .val (.int z14), .val (.int z16), .val (.int w19), .val (.int w23), .val (.int w27), .val (.int w31), .val (.int w35), .val (.ref b37), .val (.ref b85), .val (.int (p6 &&& (3 : Int32))), .unset] [(.int z16)]))
                  have fx175 := (Sta.keep (Sta.keep fx109 K108q all0) K112q (allS (Exa.nst fx113) all0))
                  obtain ⟨_, _, ⟨T174, L174, k174, n174⟩, -, X174, S174, G174, ⟨Lc174, hQ174, l174, y174, z174, C174q⟩, st174⟩ := callSS Xg112 hx (y := (⟨"com/example/subjectory/subjectory/heading/ClassLinkEqualsPinLaw", "str", "(I)Ljava/lang/String;"⟩ : MethodName)) hown (mvT hZ (hw _ (List.mem_of_getElem? (i := 9) rfl))) (mvT hZ (hw _ (List.mem_of_getElem? (i := 10) rfl))) (mvT hZ (hw _ (List.mem_of_getElem? (i := 2) rfl))) (mvT hZ (hw _ (List.mem_of_getElem? (i := 11) rfl))) (by decide) (backOfSH (s := s) (W := 0) (rm2 l Z a0 hw [] z16 cs T112.heap n0 Z112 fx175 hcs) hZ (hw _ (List.mem_of_getElem? (i := 11) rfl)) (hw _ (List.mem_of_getElem? (i := 2) rfl)) (by decide) (by decide) (own_ew hw) C132.1) (g := (mkF m 345 #[.val (.long q1), .second, .val (.long q2), .second, .val (.long q3), .second, .val (.long q4), .second, .val (.int p5), .val (.int p6), .val (.int z8), .val (.int z10), .val (.int z12), .val (.int z14), .val (.int z16), .val (.int w19), .val (.int w23), .val (.int w27), .val (.int w31), .val (.int w35), .val (.ref b37), .val (.ref b85), .val (.int (p6 &&& (3 : Int32))), .unset] [(.int z16)])) rfl (by rw [hml]; rfl) (argsL := [(.int z16)]) (rest := []) (lenOf pd_9 rfl) rfl (by show 2 * 0 + _ ≤ _; exact Nat.le_of_eq rfl) (hb hby at_345) (fun _ _ => ⟨rfl, rfl, (by decide : 52 + 3 ≤ _), (by decide : 378 + 12 ≤ _)⟩)
                  dsimp only [Pt.U, Pt.locs, Pt.cells, Pt.slots] at X174 l174 y174 z174 st174 hQ174 S174 G174 C174q
                  subst l174 y174 z174
                  have hS := foldS hS (show _ ≤ T112.heap.size from hk) S174 G174
                  have hown : (s.setVm T174.vm).vm.findClass "com/example/subjectory/subjectory/heading/ClassLinkEqualsPinLaw" = some m.cls := by rw [show (s.setVm T174.vm).vm = T174.vm from rfl, S174.1.alike.findClass]; exact hown
                  have hZ : Z.Warmed39 (s.setVm T174.vm).vm := State.Warmed39.trans (t := s.setVm T112.vm) hZ S174.1
                  have hk := Nat.le_refl T174.heap.size
                  have C176 := C132.trans C174q
                  have X174 : Stand p l e room_1 (s.setVm T174.vm) m #[(.long q1), (.long q2), (.long q3), (.long q4), (.int p5), (.int p6)] below meth c T174 _ _ _ := X174
                  obtain ⟨b177, rfl, N174q, K174q, fq174_0⟩ := hQ174
                  have N174 := Fr.app Ng112 N174q
                  have Z174 : n0 ≤ T174.heap.size := Nat.le_trans Z112 K174q.1
                  obtain ⟨Lg174, Xg174, Ng174⟩ := Stand_gen X174 N174
                  refine RunW.tr st174 ?_
                  show RunW p e below s Z own_EL 55 390 (Q_rm0 Z q1 q2 q3 q4 p5 p6 cs h0 n0) (T174.setTop (mkF m 348 #[.val (.long q1), .second, .val (.long q2), .second, .val (.long q3), .second, .val (.long q4), .second, .val (.int p5), .val (.int p6), .val (.int z8), .val (.int z10), .val (.int z12), .val (.int z14), .val (.int z16), .val (.int w19), .val (.int w23), .val (.int w27), .val (.int w31), .val (.int w35), .val (.ref b37), .val (.ref b85), .val (.int (p6 &&& (3 : Int32))), .unset] [(.ref b177)]))
                  refine RunW.go (fun _ k => XS.astore Xg174.here hx rfl (hb hby at_348) rfl rfl (l' := #[.val (.long q1), .second, .val (.long q2), .second, .val (.long q3), .second, .val (.long q4), .second, .val (.int p5), .val (.int p6), .val (.int z8), .val (.int z10), .val (.int z12), .val (.int z14), .val (.int z16), .val (.int w19), .val (.int w23), .val (.int w27), .val (.int w31), .val (.int w35), .val (.ref b37), .val (.ref b85), .val (.int (p6 &&& (3 : Int32))), .val (.ref b177)]) rfl k) ?_
                  show RunW p e below s Z own_EL 55 390 (Q_rm0 Z q1 q2 q3 q4 p5 p6 cs h0 n0) (T174.setTop (mkF m 350 #[.val (.long q1), .second, .val (.long q2), .second, .val (.long q3), .second, .val (.long q4), .second, .val (.int p5), .val (.int p6), .val (.int z8), .val (.int z10), .val (.int z12), .val (.int z14), .val (.int z16), .val (.int w19), .val (.int w23), .val (.int w27), .val (.int w31), .val (.int w35), .val (.ref b37), .val (.ref b85), .val (.int (p6 &&& (3 : Int32))), .val (.ref b177)] []))
                  refine RunW.go (fun _ k => XS.aload Xg174.here hx rfl (hb hby at_350) rfl rfl k) ?_
                  show RunW p e below s Z own_EL 55 390 (Q_rm0 Z q1 q2 q3 q4 p5 p6 cs h0 n0) (T174.setTop (mkF m 352 #[.val (.long q1), .second, .val (.long q2), .second, .val (.long q3), .second, .val (.long q4), .second, .val (.int p5), .val (.int p6), .val (.int z8), .val (.int z10), .val (.int z12), .val (.int z14), .val (.int z16), .val (.int w19), .val (.int w23), .val (.int w27), .val (.int w31), .val (.int w35), .val (.ref b37), .val (.ref b85), .val (.int (p6 &&& (3 : Int32))), .val (.ref b177)] [(.ref b37)]))
                  refine RunW.go (fun _ k => XS.aload Xg174.here hx rfl (hb hby at_352) rfl rfl k) ?_
                  show RunW p e below s Z own_EL 55 390 (Q_rm0 Z q1 q2 q3 q4 p5 p6 cs h0 n0) (T174.setTop (mkF m 354 #[.val (.long q1), .second, .val (.long q2), .second, .val (.long q3), .second, .val (.long q4), .second, .val (.int p5), .val (.int p6), .val (.int z8), .val (.int z10), .val (.int z12), .val (.int z14), .val (.int z16), .val (.int w19), .val (.int w23), .val (.int w27), .val (.int w31), .val (.int w35), .val (.ref b37), .val (.ref b85), .val (.int (p6 &&& (3 : Int32))), .val (.ref b177)] [(.ref b177), (.ref b37)]))
                  have fx179 := ((((((((fq64_0.ext E85).keep K92q).keep K96q).keep K100q).keep K104q).keep K108q).keep K112q).keep K174q)
                  obtain ⟨cq178, kq178, q178a, q178b, q178c⟩ := isOf hZ rfl fx179
                  obtain ⟨_, _, ⟨T178, L178, k178, n178⟩, -, X178, ⟨Lc178, hQ178, l178, y178, z178⟩, st178⟩ := Xg174.virtualBack hx (y := (⟨"com/example/subjectory/subjectory/heading/ClassLink", "equals", "(Ljava/lang/Object;)Z"⟩ : MethodName)) (z := (⟨"com/example/subjectory/subjectory/heading/ClassLink", "equals", "(Ljava/lang/Object;)Z"⟩ : MethodName)) hown (mvT hZ (hw _ (List.mem_of_getElem? (i := 88) rfl))) (mvT hZ (hw _ (List.mem_of_getElem? (i := 89) rfl))) (notFace_of_selects (args := #[]) (mvT hZ (hw _ (List.mem_of_getElem? (i := 91) rfl)))) (mvT hZ (hw _ (List.mem_of_getElem? (i := 91) rfl))) (mvT hZ (hw _ (List.mem_of_getElem? (i := 90) rfl))) (by decide) (backOf (W := 0) (rm16i l Z a0 hw [] b37 b177 T174.heap n0 Z174 (SStr.exa fq174_0)) hZ (hw _ (List.mem_of_getElem? (i := 92) rfl)) (hw _ (List.mem_of_getElem? (i := 8) rfl)) (by decide) (by decide)) q178a q178c (g := (mkF m 354 #[.val (.long q1), .second, .val (.long q2), .second, .val (.long q3), .second, .val (.long q4), .second, .val (.int p5), .val (.int p6), .val (.int z8), .val (.int z10), .val (.int z12), .val (.int z14), .val (.int z16), .val (.int w19), .val (.int w23), .val (.int w27), .val (.int w31), .val (.int w35), .val (.ref b37), .val (.ref b85), .val (.int (p6 &&& (3 : Int32))), .val (.ref b177)] [(.ref b177), (.ref b37)])) rfl (by rw [hml]; rfl) (Steps.refl _) (argsL := [(.ref b177)]) (rest := []) (lenOf pd_7 rfl) rfl (by show 2 * 0 + _ ≤ _; exact Nat.le_of_eq rfl) (hb hby at_354) (fun _ _ => ⟨rfl, rfl, (by decide : 55 + 0 ≤ _), (by decide : 390 + 0 ≤ _)⟩)
                  dsimp only [Pt.U, Pt.locs, Pt.cells, Pt.slots] at X178 l178 y178 z178 st178 hQ178
                  subst l178 y178 z178
                  obtain ⟨rfl, N178q, e178q⟩ := hQ178
                  have N178 := Fr.app Ng174 N178q
                  obtain ⟨Lg178, Xg178, Ng178⟩ := Stand_gen X178 N178
                  refine RunW.tr st178 ?_
                  show RunW p e below s Z own_EL 55 390 (Q_rm0 Z q1 q2 q3 q4 p5 p6 cs h0 n0) (T178.setTop (mkF m 357 #[.val (.long q1), .second, .val (.long q2), .second, .val (.long q3), .second, .val (.long q4), .second, .val (.int p5), .val (.int p6), .val (.int z8), .val (.int z10), .val (.int z12), .val (.int z14), .val (.int z16), .val (.int w19), .val (.int w23), .val (.int w27), .val (.int w31), .val (.int w35), .val (.ref b37), .val (.ref b85), .val (.int (p6 &&& (3 : Int32))), .val (.ref b177)] [(.int (0 : Int32))]))
                  refine RunW.go (fun _ k => XS.ifNo Xg178.here hx rfl (hb hby at_357) rfl ((if0 _ _).trans (teq (rfl : (0 : Int32) = (0 : Int32))).2) k) ?_
                  show RunW p e below s Z own_EL 55 390 (Q_rm0 Z q1 q2 q3 q4 p5 p6 cs h0 n0) (T178.setTop (mkF m 360 #[.val (.long q1), .second, .val (.long q2), .second, .val (.long q3), .second, .val (.long q4), .second, .val (.int p5), .val (.int p6), .val (.int z8), .val (.int z10), .val (.int z12), .val (.int z14), .val (.int z16), .val (.int w19), .val (.int w23), .val (.int w27), .val (.int w31), .val (.int w35), .val (.ref b37), .val (.ref b85), .val (.int (p6 &&& (3 : Int32))), .val (.ref b177)] []))
                  refine RunW.go (fun _ k => XS.iconst Xg178.here hx rfl (hb hby at_360) k) ?_
                  show RunW p e below s Z own_EL 55 390 (Q_rm0 Z q1 q2 q3 q4 p5 p6 cs h0 n0) (T178.setTop (mkF m 361 #[.val (.long q1), .second, .val (.long q2), .second, .val (.long q3), .second, .val (.long q4), .second, .val (.int p5), .val (.int p6), .val (.int z8), .val (.int z10), .val (.int z12), .val (.int z14), .val (.int z16), .val (.int w19), .val (.int w23), .val (.int w27), .val (.int w31), .val (.int w35), .val (.ref b37), .val (.ref b85), .val (.int (p6 &&& (3 : Int32))), .val (.ref b177)] [(.int (1 : Int32))]))
                  refine RunW.go (fun _ k => XS.goto Xg178.here hx rfl (pc0 := 361) (pc' := 365) rfl (hb hby at_361) (by decide) (by decide) k) ?_
                  show RunW p e below s Z own_EL 55 390 (Q_rm0 Z q1 q2 q3 q4 p5 p6 cs h0 n0) (T178.setTop (mkF m 365 #[.val (.long q1), .second, .val (.long q2), .second, .val (.long q3), .second, .val (.long q4), .second, .val (.int p5), .val (.int p6), .val (.int z8), .val (.int z10), .val (.int z12), .val (.int z14), .val (.int z16), .val (.int w19), .val (.int w23), .val (.int w27), .val (.int w31), .val (.int w35), .val (.ref b37), .val (.ref b85), .val (.int (p6 &&& (3 : Int32))), .val (.ref b177)] [(.int (1 : Int32))]))
                  exact RunW.retN (y := 1) Xg178 hx hZ (own_ew hw) hS hk e178q C176 (t := .boolean) Bd.returns (by simp) rfl Bd.notSynchronized (hb hby at_365) (by decide) (by decide) ⟨rfl, Ng178⟩
                · refine RunW.go (fun _ k => XS.icmpYes Xg112.here hx rfl (pc0 := 340) (pc' := 366) rfl (hb hby at_340) rfl (feq hc173).2 (by decide) (by decide) k) ?_
                  show RunW p e below s Z own_EL 55 390 (Q_rm0 Z q1 q2 q3 q4 p5 p6 cs h0 n0) (T112.setTop (mkF m 366 #[.val (.long q1), .second, .val (.long q2), .second, .val (.long q3), .second, .val (.long q4), .second, .val (.int p5), .val (.int p6), .val (.int z8), .val (.int z10), .val (.int z12), .val (.int z14), .val (.int z16), .val (.int w19), .val (.int w23), .val (.int w27), .val (.int w31), .val (.int w35), .val (.ref b37), .val (.ref b85), .val (.int (p6 &&& (3 : Int32))), .unset] []))
                  refine RunW.go (fun _ k => XS.aload Xg112.here hx rfl (hb hby at_366) rfl rfl k) ?_
                  show RunW p e below s Z own_EL 55 390 (Q_rm0 Z q1 q2 q3 q4 p5 p6 cs h0 n0) (T112.setTop (mkF m 368 #[.val (.long q1), .second, .val (.long q2), .second, .val (.long q3), .second, .val (.long q4), .second, .val (.int p5), .val (.int p6), .val (.int z8), .val (.int z10), .val (.int z12), .val (.int z14), .val (.int z16), .val (.int w19), .val (.int w23), .val (.int w27), .val (.int w31), .val (.int w35), .val (.ref b37), .val (.ref b85), .val (.int (p6 &&& (3 : Int32))), .unset] [(.ref b37)]))
                  refine RunW.go (fun _ k => XS.aload Xg112.here hx rfl (hb hby at_368) rfl rfl k) ?_
                  show RunW p e below s Z own_EL 55 390 (Q_rm0 Z q1 q2 q3 q4 p5 p6 cs h0 n0) (T112.setTop (mkF m 370 #[.val (.long q1), .second, .val (.long q2), .second, .val (.long q3), .second, .val (.long q4), .second, .val (.int p5), .val (.int p6), .val (.int z8), .val (.int z10), .val (.int z12), .val (.int z14), .val (.int z16), .val (.int w19), .val (.int w23), .val (.int w27), .val (.int w31), .val (.int w35), .val (.ref b37), .val (.ref b85), .val (.int (p6 &&& (3 : Int32))), .unset] [(.ref b37), (.ref b37)]))
                  have fx181 := (Sta.keep (Sta.keep fx109 K108q all0) K112q (allS (Exa.nst fx113) all0))
                  have fx182 := (((((((fq64_0.ext E85).keep K92q).keep K96q).keep K100q).keep K104q).keep K108q).keep K112q)
                  have fx183 := (((((((fq64_1.ext E85).keep K92q nin0).keep K96q nin0).keep K100q nin0).keep K104q nin0).keep K108q nin0).keep K112q (ninS ne_b37_b85 nin0))
                  have fx184 := (((((((fq64_2.ext E85).keep K92q nin0).keep K96q nin0).keep K100q nin0).keep K104q nin0).keep K108q nin0).keep K112q (ninS ne_b37_b85 nin0))
                  have fx185 := (((((((fq64_3.ext E85).keep K92q nin0).keep K96q nin0).keep K100q nin0).keep K104q nin0).keep K108q nin0).keep K112q (ninS ne_b37_b85 nin0))
                  have fx186 := (((((((fq64_4.ext E85).keep K92q nin0).keep K96q nin0).keep K100q nin0).keep K104q nin0).keep K108q nin0).keep K112q (ninS ne_b37_b85 nin0))
                  have fx187 := (((((((fq64_5.ext E85).keep K92q nin0).keep K96q nin0).keep K100q nin0).keep K104q nin0).keep K108q nin0).keep K112q (ninS ne_b37_b85 nin0))
                  have fx188 := ((((((((fx66.keep K64q).ext E85).keep K92q).keep K96q).keep K100q).keep K104q).keep K108q).keep K112q)
                  have fx189 := ((((((((fx67.keep K64q).ext E85).keep K92q).keep K96q).keep K100q).keep K104q).keep K108q).keep K112q)
                  have fx190 := ((((((((fx68.keep K64q).ext E85).keep K92q).keep K96q).keep K100q).keep K104q).keep K108q).keep K112q)
                  have fx191 := ((((((((fx69.keep K64q).ext E85).keep K92q).keep K96q).keep K100q).keep K104q).keep K108q).keep K112q)
                  have fx192 := (((((((((SStr.exa fq60_0).keep K64q).ext E85).keep K92q).keep K96q).keep K100q).keep K104q).keep K108q).keep K112q)
                  obtain ⟨cq180, kq180, q180a, q180b, q180c⟩ := isOf hZ rfl fx182
                  obtain ⟨_, _, ⟨T180, L180, k180, n180⟩, -, X180, ⟨Lc180, hQ180, l180, y180, z180⟩, st180⟩ := Xg112.virtualBack hx (y := (⟨"com/example/subjectory/subjectory/heading/ClassLink", "equals", "(Ljava/lang/Object;)Z"⟩ : MethodName)) (z := (⟨"com/example/subjectory/subjectory/heading/ClassLink", "equals", "(Ljava/lang/Object;)Z"⟩ : MethodName)) hown (mvT hZ (hw _ (List.mem_of_getElem? (i := 88) rfl))) (mvT hZ (hw _ (List.mem_of_getElem? (i := 89) rfl))) (notFace_of_selects (args := #[]) (mvT hZ (hw _ (List.mem_of_getElem? (i := 91) rfl)))) (mvT hZ (hw _ (List.mem_of_getElem? (i := 91) rfl))) (mvT hZ (hw _ (List.mem_of_getElem? (i := 90) rfl))) (by decide) (backOf (W := 0) (rm16s l Z a0 hw [] b37 cs b47 b51 b55 b59 b63 (own_cs z8) (own_cs z10) (own_cs z12) (own_cs z14) (own_cs z16) T112.heap n0 Z112 fx181 hcs fx182 fx183 fx184 fx185 fx186 fx187 fx188 fx133 fx189 fx134 fx190 fx135 fx191 fx136 fx192 fx137) hZ (hw _ (List.mem_of_getElem? (i := 92) rfl)) (hw _ (List.mem_of_getElem? (i := 8) rfl)) (by decide) (by decide)) q180a q180c (g := (mkF m 370 #[.val (.long q1), .second, .val (.long q2), .second, .val (.long q3), .second, .val (.long q4), .second, .val (.int p5), .val (.int p6), .val (.int z8), .val (.int z10), .val (.int z12), .val (.int z14), .val (.int z16), .val (.int w19), .val (.int w23), .val (.int w27), .val (.int w31), .val (.int w35), .val (.ref b37), .val (.ref b85), .val (.int (p6 &&& (3 : Int32))), .unset] [(.ref b37), (.ref b37)])) rfl (by rw [hml]; rfl) (Steps.refl _) (argsL := [(.ref b37)]) (rest := []) (lenOf pd_7 rfl) rfl (by show 2 * 0 + _ ≤ _; exact Nat.le_of_eq rfl) (hb hby at_370) (fun _ _ => ⟨rfl, rfl, (by decide : 52 + 0 ≤ _), (by decide : 378 + 0 ≤ _)⟩)
                  dsimp only [Pt.U, Pt.locs, Pt.cells, Pt.slots] at X180 l180 y180 z180 st180 hQ180
                  subst l180 y180 z180
                  obtain ⟨rfl, N180q, e180q⟩ := hQ180
                  have N180 := Fr.app Ng112 N180q
                  obtain ⟨Lg180, Xg180, Ng180⟩ := Stand_gen X180 N180
                  refine RunW.tr st180 ?_
                  show RunW p e below s Z own_EL 55 390 (Q_rm0 Z q1 q2 q3 q4 p5 p6 cs h0 n0) (T180.setTop (mkF m 373 #[.val (.long q1), .second, .val (.long q2), .second, .val (.long q3), .second, .val (.long q4), .second, .val (.int p5), .val (.int p6), .val (.int z8), .val (.int z10), .val (.int z12), .val (.int z14), .val (.int z16), .val (.int w19), .val (.int w23), .val (.int w27), .val (.int w31), .val (.int w35), .val (.ref b37), .val (.ref b85), .val (.int (p6 &&& (3 : Int32))), .unset] [(.int (F_rm16s (own_cs z8) (own_cs z10) (own_cs z12) (own_cs z14) (own_cs z16)))]))
                  exact RunW.retN (y := 1) Xg180 hx hZ (own_ew hw) hS hk e180q C132 (t := .boolean) Bd.returns (by simp) (by rw [show (F_rm16s (own_cs z8) (own_cs z10) (own_cs z12) (own_cs z14) (own_cs z16)) = 1 from (by exact own_self _ _ _ _ _)]; rfl) Bd.notSynchronized (hb hby at_373) (by decide) (by decide) ⟨rfl, Ng180⟩
          by_cases hc193 : ((p5 &&& (16 : Int32)) = (0 : Int32))
          · refine RunW.go (fun _ k => XS.ifYes X32.here hx rfl (pc0 := 156) (pc' := 164) rfl (hb hby at_156) rfl ((if0 _ _).trans (teq hc193).1) (by decide) (by decide) k) ?_
            show RunW p e below s Z own_EL 55 390 (Q_rm0 Z q1 q2 q3 q4 p5 p6 cs h0 n0) (T32.setTop (mkF m 164 #[.val (.long q1), .second, .val (.long q2), .second, .val (.long q3), .second, .val (.long q4), .second, .val (.int p5), .val (.int p6), .val (.int z8), .val (.int z10), .val (.int z12), .val (.int z14), .val (.int z16), .val (.int w19), .val (.int w23), .val (.int w27), .val (.int w31), .unset, .unset, .unset, .unset, .unset] []))
            refine RunW.go (fun _ k => XS.lload X32.here hx rfl (hb hby at_164) rfl  k) ?_
            show RunW p e below s Z own_EL 55 390 (Q_rm0 Z q1 q2 q3 q4 p5 p6 cs h0 n0) (T32.setTop (mkF m 166 #[.val (.long q1), .second, .val (.long q2), .second, .val (.long q3), .second, .val (.long q4), .second, .val (.int p5), .val (.int p6), .val (.int z8), .val (.int z10), .val (.int z12), .val (.int z14), .val (.int z16), .val (.int w19), .val (.int w23), .val (.int w27), .val (.int w31), .unset, .unset, .unset, .unset, .unset] [(.long q3)]))
            refine RunW.go (fun _ k => XS.lload X32.here hx rfl (hb hby at_166) rfl  k) ?_
            show RunW p e below s Z own_EL 55 390 (Q_rm0 Z q1 q2 q3 q4 p5 p6 cs h0 n0) (T32.setTop (mkF m 168 #[.val (.long q1), .second, .val (.long q2), .second, .val (.long q3), .second, .val (.long q4), .second, .val (.int p5), .val (.int p6), .val (.int z8), .val (.int z10), .val (.int z12), .val (.int z14), .val (.int z16), .val (.int w19), .val (.int w23), .val (.int w27), .val (.int w31), .unset, .unset, .unset, .unset, .unset] [(.long q4), (.long q3)]))
            refine RunW.go (fun _ k => XS.lload X32.here hx rfl (hb hby at_168) rfl  k) ?_
            show RunW p e below s Z own_EL 55 390 (Q_rm0 Z q1 q2 q3 q4 p5 p6 cs h0 n0) (T32.setTop (mkF m 170 #[.val (.long q1), .second, .val (.long q2), .second, .val (.long q3), .second, .val (.long q4), .second, .val (.int p5), .val (.int p6), .val (.int z8), .val (.int z10), .val (.int z12), .val (.int z14), .val (.int z16), .val (.int w19), .val (.int w23), .val (.int w27), .val (.int w31), .unset, .unset, .unset, .unset, .unset] [(.long q3), (.long q4), (.long q3)]))
            refine RunW.go (fun _ k => XS.iconst X32.here hx rfl (hb hby at_170) k) ?_
            show RunW p e below s Z own_EL 55 390 (Q_rm0 Z q1 q2 q3 q4 p5 p6 cs h0 n0) (T32.setTop (mkF m 171 #[.val (.long q1), .second, .val (.long q2), .second, .val (.long q3), .second, .val (.long q4), .second, .val (.int p5), .val (.int p6), .val (.int z8), .val (.int z10), .val (.int z12), .val (.int z14), .val (.int z16), .val (.int w19), .val (.int w23), .val (.int w27), .val (.int w31), .unset, .unset, .unset, .unset, .unset] [(.int (4 : Int32)), (.long q3), (.long q4), (.long q3)]))
            refine RunW.go (fun _ k => XS.iconst X32.here hx rfl (hb hby at_171) k) ?_
            show RunW p e below s Z own_EL 55 390 (Q_rm0 Z q1 q2 q3 q4 p5 p6 cs h0 n0) (T32.setTop (mkF m 172 #[.val (.long q1), .second, .val (.long q2), .second, .val (.long q3), .second, .val (.long q4), .second, .val (.int p5), .val (.int p6), .val (.int z8), .val (.int z10), .val (.int z12), .val (.int z14), .val (.int z16), .val (.int w19), .val (.int w23), .val (.int w27), .val (.int w31), .unset, .unset, .unset, .unset, .unset] [(.int (1 : Int32)), (.int (4 : Int32)), (.long q3), (.long q4), (.long q3)]))
            obtain ⟨_, _, ⟨T194, L194, k194, n194⟩, -, X194, ⟨Lc194, hQ194, l194, y194, z194⟩, st194⟩ := Jvm.LawKit.callS X32 hx (y := (⟨"com/example/subjectory/subjectory/heading/ClassLinkEqualsPinLaw", "spec", "(JJJIZ)I"⟩ : MethodName)) hown (mvT hZ (hw _ (List.mem_of_getElem? (i := 0) rfl))) (mvT hZ (hw _ (List.mem_of_getElem? (i := 1) rfl))) (mvT hZ (hw _ (List.mem_of_getElem? (i := 2) rfl))) (mvT hZ (hw _ (List.mem_of_getElem? (i := 3) rfl))) (by decide) (backOf (W := 0) (rm1_4 l Z a0 hw [] q3 q4 q3 h0 n0 Z0 ) hZ (hw _ (List.mem_of_getElem? (i := 3) rfl)) (hw _ (List.mem_of_getElem? (i := 2) rfl)) (by decide) (by decide)) (g := (mkF m 172 #[.val (.long q1), .second, .val (.long q2), .second, .val (.long q3), .second, .val (.long q4), .second, .val (.int p5), .val (.int p6), .val (.int z8), .val (.int z10), .val (.int z12), .val (.int z14), .val (.int z16), .val (.int w19), .val (.int w23), .val (.int w27), .val (.int w31), .unset, .unset, .unset, .unset, .unset] [(.int (1 : Int32)), (.int (4 : Int32)), (.long q3), (.long q4), (.long q3)])) rfl (by rw [hml]; rfl) (argsL := [(.long q3), (.long q4), (.long q3), (.int (4 : Int32)), (.int (1 : Int32))]) (rest := []) (lenOf pd_8 rfl) rfl (by show 2 * 0 + _ ≤ _; exact Nat.le_of_eq rfl) (hb hby at_172) (fun _ _ => ⟨rfl, e32, (by decide : 0 + 0 ≤ _), (by decide : 0 + 0 ≤ _)⟩)
            dsimp only [Pt.U, Pt.locs, Pt.cells, Pt.slots] at X194 l194 y194 z194 st194 hQ194
            subst l194 y194 z194
            obtain ⟨rfl, N194q, e194q⟩ := hQ194
            have N194 := Fr.app N32 N194q
            obtain ⟨Lg194, Xg194, Ng194⟩ := Stand_gen X194 N194
            refine RunW.go st194 ?_
            show RunW p e below s Z own_EL 55 390 (Q_rm0 Z q1 q2 q3 q4 p5 p6 cs h0 n0) (T194.setTop (mkF m 175 #[.val (.long q1), .second, .val (.long q2), .second, .val (.long q3), .second, .val (.long q4), .second, .val (.int p5), .val (.int p6), .val (.int z8), .val (.int z10), .val (.int z12), .val (.int z14), .val (.int z16), .val (.int w19), .val (.int w23), .val (.int w27), .val (.int w31), .unset, .unset, .unset, .unset, .unset] [(.int (F_rm1_4 q3 q4 q3))]))
            exact J34 _ (by rw [if_pos hc193]) _ _ Xg194 e194q Ng194
          · refine RunW.go (fun _ k => XS.ifNo X32.here hx rfl (hb hby at_156) rfl ((if0 _ _).trans (feq hc193).1) k) ?_
            show RunW p e below s Z own_EL 55 390 (Q_rm0 Z q1 q2 q3 q4 p5 p6 cs h0 n0) (T32.setTop (mkF m 159 #[.val (.long q1), .second, .val (.long q2), .second, .val (.long q3), .second, .val (.long q4), .second, .val (.int p5), .val (.int p6), .val (.int z8), .val (.int z10), .val (.int z12), .val (.int z14), .val (.int z16), .val (.int w19), .val (.int w23), .val (.int w27), .val (.int w31), .unset, .unset, .unset, .unset, .unset] []))
            refine RunW.go (fun _ k => XS.iload X32.here hx rfl (hb hby at_159) rfl  k) ?_
            show RunW p e below s Z own_EL 55 390 (Q_rm0 Z q1 q2 q3 q4 p5 p6 cs h0 n0) (T32.setTop (mkF m 161 #[.val (.long q1), .second, .val (.long q2), .second, .val (.long q3), .second, .val (.long q4), .second, .val (.int p5), .val (.int p6), .val (.int z8), .val (.int z10), .val (.int z12), .val (.int z14), .val (.int z16), .val (.int w19), .val (.int w23), .val (.int w27), .val (.int w31), .unset, .unset, .unset, .unset, .unset] [(.int z16)]))
            refine RunW.go (fun _ k => XS.goto X32.here hx rfl (pc0 := 161) (pc' := 175) rfl (hb hby at_161) (by decide) (by decide) k) ?_
            show RunW p e below s Z own_EL 55 390 (Q_rm0 Z q1 q2 q3 q4 p5 p6 cs h0 n0) (T32.setTop (mkF m 175 #[.val (.long q1), .second, .val (.long q2), .second, .val (.long q3), .second, .val (.long q4), .second, .val (.int p5), .val (.int p6), .val (.int z8), .val (.int z10), .val (.int z12), .val (.int z14), .val (.int z16), .val (.int w19), .val (.int w23), .val (.int w27), .val (.int w31), .unset, .unset, .unset, .unset, .unset] [(.int z16)]))
            exact J34 _ (by rw [if_neg hc193]) _ _ X32 e32 N32
        by_cases hc195 : ((p5 &&& (8 : Int32)) = (0 : Int32))
        · refine RunW.go (fun _ k => XS.ifYes X28.here hx rfl (pc0 := 130) (pc' := 138) rfl (hb hby at_130) rfl ((if0 _ _).trans (teq hc195).1) (by decide) (by decide) k) ?_
          show RunW p e below s Z own_EL 55 390 (Q_rm0 Z q1 q2 q3 q4 p5 p6 cs h0 n0) (T28.setTop (mkF m 138 #[.val (.long q1), .second, .val (.long q2), .second, .val (.long q3), .second, .val (.long q4), .second, .val (.int p5), .val (.int p6), .val (.int z8), .val (.int z10), .val (.int z12), .val (.int z14), .val (.int z16), .val (.int w19), .val (.int w23), .val (.int w27), .unset, .unset, .unset, .unset, .unset, .unset] []))
          refine RunW.go (fun _ k => XS.lload X28.here hx rfl (hb hby at_138) rfl  k) ?_
          show RunW p e below s Z own_EL 55 390 (Q_rm0 Z q1 q2 q3 q4 p5 p6 cs h0 n0) (T28.setTop (mkF m 140 #[.val (.long q1), .second, .val (.long q2), .second, .val (.long q3), .second, .val (.long q4), .second, .val (.int p5), .val (.int p6), .val (.int z8), .val (.int z10), .val (.int z12), .val (.int z14), .val (.int z16), .val (.int w19), .val (.int w23), .val (.int w27), .unset, .unset, .unset, .unset, .unset, .unset] [(.long q3)]))
          refine RunW.go (fun _ k => XS.lload X28.here hx rfl (hb hby at_140) rfl  k) ?_
          show RunW p e below s Z own_EL 55 390 (Q_rm0 Z q1 q2 q3 q4 p5 p6 cs h0 n0) (T28.setTop (mkF m 142 #[.val (.long q1), .second, .val (.long q2), .second, .val (.long q3), .second, .val (.long q4), .second, .val (.int p5), .val (.int p6), .val (.int z8), .val (.int z10), .val (.int z12), .val (.int z14), .val (.int z16), .val (.int w19), .val (.int w23), .val (.int w27), .unset, .unset, .unset, .unset, .unset, .unset] [(.long q4), (.long q3)]))
          refine RunW.go (fun _ k => XS.lload X28.here hx rfl (hb hby at_142) rfl  k) ?_
          show RunW p e below s Z own_EL 55 390 (Q_rm0 Z q1 q2 q3 q4 p5 p6 cs h0 n0) (T28.setTop (mkF m 144 #[.val (.long q1), .second, .val (.long q2), .second, .val (.long q3), .second, .val (.long q4), .second, .val (.int p5), .val (.int p6), .val (.int z8), .val (.int z10), .val (.int z12), .val (.int z14), .val (.int z16), .val (.int w19), .val (.int w23), .val (.int w27), .unset, .unset, .unset, .unset, .unset, .unset] [(.long q3), (.long q4), (.long q3)]))
          refine RunW.go (fun _ k => XS.iconst X28.here hx rfl (hb hby at_144) k) ?_
          show RunW p e below s Z own_EL 55 390 (Q_rm0 Z q1 q2 q3 q4 p5 p6 cs h0 n0) (T28.setTop (mkF m 145 #[.val (.long q1), .second, .val (.long q2), .second, .val (.long q3), .second, .val (.long q4), .second, .val (.int p5), .val (.int p6), .val (.int z8), .val (.int z10), .val (.int z12), .val (.int z14), .val (.int z16), .val (.int w19), .val (.int w23), .val (.int w27), .unset, .unset, .unset, .unset, .unset, .unset] [(.int (3 : Int32)), (.long q3), (.long q4), (.long q3)]))
          refine RunW.go (fun _ k => XS.iconst X28.here hx rfl (hb hby at_145) k) ?_
          show RunW p e below s Z own_EL 55 390 (Q_rm0 Z q1 q2 q3 q4 p5 p6 cs h0 n0) (T28.setTop (mkF m 146 #[.val (.long q1), .second, .val (.long q2), .second, .val (.long q3), .second, .val (.long q4), .second, .val (.int p5), .val (.int p6), .val (.int z8), .val (.int z10), .val (.int z12), .val (.int z14), .val (.int z16), .val (.int w19), .val (.int w23), .val (.int w27), .unset, .unset, .unset, .unset, .unset, .unset] [(.int (0 : Int32)), (.int (3 : Int32)), (.long q3), (.long q4), (.long q3)]))
          obtain ⟨_, _, ⟨T196, L196, k196, n196⟩, -, X196, ⟨Lc196, hQ196, l196, y196, z196⟩, st196⟩ := Jvm.LawKit.callS X28 hx (y := (⟨"com/example/subjectory/subjectory/heading/ClassLinkEqualsPinLaw", "spec", "(JJJIZ)I"⟩ : MethodName)) hown (mvT hZ (hw _ (List.mem_of_getElem? (i := 0) rfl))) (mvT hZ (hw _ (List.mem_of_getElem? (i := 1) rfl))) (mvT hZ (hw _ (List.mem_of_getElem? (i := 2) rfl))) (mvT hZ (hw _ (List.mem_of_getElem? (i := 3) rfl))) (by decide) (backOf (W := 0) (rm1_3 l Z a0 hw [] q3 q4 q3 h0 n0 Z0 ) hZ (hw _ (List.mem_of_getElem? (i := 3) rfl)) (hw _ (List.mem_of_getElem? (i := 2) rfl)) (by decide) (by decide)) (g := (mkF m 146 #[.val (.long q1), .second, .val (.long q2), .second, .val (.long q3), .second, .val (.long q4), .second, .val (.int p5), .val (.int p6), .val (.int z8), .val (.int z10), .val (.int z12), .val (.int z14), .val (.int z16), .val (.int w19), .val (.int w23), .val (.int w27), .unset, .unset, .unset, .unset, .unset, .unset] [(.int (0 : Int32)), (.int (3 : Int32)), (.long q3), (.long q4), (.long q3)])) rfl (by rw [hml]; rfl) (argsL := [(.long q3), (.long q4), (.long q3), (.int (3 : Int32)), (.int (0 : Int32))]) (rest := []) (lenOf pd_8 rfl) rfl (by show 2 * 0 + _ ≤ _; exact Nat.le_of_eq rfl) (hb hby at_146) (fun _ _ => ⟨rfl, e28, (by decide : 0 + 0 ≤ _), (by decide : 0 + 0 ≤ _)⟩)
          dsimp only [Pt.U, Pt.locs, Pt.cells, Pt.slots] at X196 l196 y196 z196 st196 hQ196
          subst l196 y196 z196
          obtain ⟨rfl, N196q, e196q⟩ := hQ196
          have N196 := Fr.app N28 N196q
          obtain ⟨Lg196, Xg196, Ng196⟩ := Stand_gen X196 N196
          refine RunW.go st196 ?_
          show RunW p e below s Z own_EL 55 390 (Q_rm0 Z q1 q2 q3 q4 p5 p6 cs h0 n0) (T196.setTop (mkF m 149 #[.val (.long q1), .second, .val (.long q2), .second, .val (.long q3), .second, .val (.long q4), .second, .val (.int p5), .val (.int p6), .val (.int z8), .val (.int z10), .val (.int z12), .val (.int z14), .val (.int z16), .val (.int w19), .val (.int w23), .val (.int w27), .unset, .unset, .unset, .unset, .unset, .unset] [(.int (F_rm1_3 q3 q4 q3))]))
          exact J30 _ (by rw [if_pos hc195]) _ _ Xg196 e196q Ng196
        · refine RunW.go (fun _ k => XS.ifNo X28.here hx rfl (hb hby at_130) rfl ((if0 _ _).trans (feq hc195).1) k) ?_
          show RunW p e below s Z own_EL 55 390 (Q_rm0 Z q1 q2 q3 q4 p5 p6 cs h0 n0) (T28.setTop (mkF m 133 #[.val (.long q1), .second, .val (.long q2), .second, .val (.long q3), .second, .val (.long q4), .second, .val (.int p5), .val (.int p6), .val (.int z8), .val (.int z10), .val (.int z12), .val (.int z14), .val (.int z16), .val (.int w19), .val (.int w23), .val (.int w27), .unset, .unset, .unset, .unset, .unset, .unset] []))
          refine RunW.go (fun _ k => XS.iload X28.here hx rfl (hb hby at_133) rfl  k) ?_
          show RunW p e below s Z own_EL 55 390 (Q_rm0 Z q1 q2 q3 q4 p5 p6 cs h0 n0) (T28.setTop (mkF m 135 #[.val (.long q1), .second, .val (.long q2), .second, .val (.long q3), .second, .val (.long q4), .second, .val (.int p5), .val (.int p6), .val (.int z8), .val (.int z10), .val (.int z12), .val (.int z14), .val (.int z16), .val (.int w19), .val (.int w23), .val (.int w27), .unset, .unset, .unset, .unset, .unset, .unset] [(.int z14)]))
          refine RunW.go (fun _ k => XS.goto X28.here hx rfl (pc0 := 135) (pc' := 149) rfl (hb hby at_135) (by decide) (by decide) k) ?_
          show RunW p e below s Z own_EL 55 390 (Q_rm0 Z q1 q2 q3 q4 p5 p6 cs h0 n0) (T28.setTop (mkF m 149 #[.val (.long q1), .second, .val (.long q2), .second, .val (.long q3), .second, .val (.long q4), .second, .val (.int p5), .val (.int p6), .val (.int z8), .val (.int z10), .val (.int z12), .val (.int z14), .val (.int z16), .val (.int w19), .val (.int w23), .val (.int w27), .unset, .unset, .unset, .unset, .unset, .unset] [(.int z14)]))
          exact J30 _ (by rw [if_neg hc195]) _ _ X28 e28 N28
      by_cases hc197 : ((p5 &&& (4 : Int32)) = (0 : Int32))
      · refine RunW.go (fun _ k => XS.ifYes X24.here hx rfl (pc0 := 104) (pc' := 112) rfl (hb hby at_104) rfl ((if0 _ _).trans (teq hc197).1) (by decide) (by decide) k) ?_
        show RunW p e below s Z own_EL 55 390 (Q_rm0 Z q1 q2 q3 q4 p5 p6 cs h0 n0) (T24.setTop (mkF m 112 #[.val (.long q1), .second, .val (.long q2), .second, .val (.long q3), .second, .val (.long q4), .second, .val (.int p5), .val (.int p6), .val (.int z8), .val (.int z10), .val (.int z12), .val (.int z14), .val (.int z16), .val (.int w19), .val (.int w23), .unset, .unset, .unset, .unset, .unset, .unset, .unset] []))
        refine RunW.go (fun _ k => XS.lload X24.here hx rfl (hb hby at_112) rfl  k) ?_
        show RunW p e below s Z own_EL 55 390 (Q_rm0 Z q1 q2 q3 q4 p5 p6 cs h0 n0) (T24.setTop (mkF m 114 #[.val (.long q1), .second, .val (.long q2), .second, .val (.long q3), .second, .val (.long q4), .second, .val (.int p5), .val (.int p6), .val (.int z8), .val (.int z10), .val (.int z12), .val (.int z14), .val (.int z16), .val (.int w19), .val (.int w23), .unset, .unset, .unset, .unset, .unset, .unset, .unset] [(.long q3)]))
        refine RunW.go (fun _ k => XS.lload X24.here hx rfl (hb hby at_114) rfl  k) ?_
        show RunW p e below s Z own_EL 55 390 (Q_rm0 Z q1 q2 q3 q4 p5 p6 cs h0 n0) (T24.setTop (mkF m 116 #[.val (.long q1), .second, .val (.long q2), .second, .val (.long q3), .second, .val (.long q4), .second, .val (.int p5), .val (.int p6), .val (.int z8), .val (.int z10), .val (.int z12), .val (.int z14), .val (.int z16), .val (.int w19), .val (.int w23), .unset, .unset, .unset, .unset, .unset, .unset, .unset] [(.long q4), (.long q3)]))
        refine RunW.go (fun _ k => XS.lload X24.here hx rfl (hb hby at_116) rfl  k) ?_
        show RunW p e below s Z own_EL 55 390 (Q_rm0 Z q1 q2 q3 q4 p5 p6 cs h0 n0) (T24.setTop (mkF m 118 #[.val (.long q1), .second, .val (.long q2), .second, .val (.long q3), .second, .val (.long q4), .second, .val (.int p5), .val (.int p6), .val (.int z8), .val (.int z10), .val (.int z12), .val (.int z14), .val (.int z16), .val (.int w19), .val (.int w23), .unset, .unset, .unset, .unset, .unset, .unset, .unset] [(.long q3), (.long q4), (.long q3)]))
        refine RunW.go (fun _ k => XS.iconst X24.here hx rfl (hb hby at_118) k) ?_
        show RunW p e below s Z own_EL 55 390 (Q_rm0 Z q1 q2 q3 q4 p5 p6 cs h0 n0) (T24.setTop (mkF m 119 #[.val (.long q1), .second, .val (.long q2), .second, .val (.long q3), .second, .val (.long q4), .second, .val (.int p5), .val (.int p6), .val (.int z8), .val (.int z10), .val (.int z12), .val (.int z14), .val (.int z16), .val (.int w19), .val (.int w23), .unset, .unset, .unset, .unset, .unset, .unset, .unset] [(.int (2 : Int32)), (.long q3), (.long q4), (.long q3)]))
        refine RunW.go (fun _ k => XS.iconst X24.here hx rfl (hb hby at_119) k) ?_
        show RunW p e below s Z own_EL 55 390 (Q_rm0 Z q1 q2 q3 q4 p5 p6 cs h0 n0) (T24.setTop (mkF m 120 #[.val (.long q1), .second, .val (.long q2), .second, .val (.long q3), .second, .val (.long q4), .second, .val (.int p5), .val (.int p6), .val (.int z8), .val (.int z10), .val (.int z12), .val (.int z14), .val (.int z16), .val (.int w19), .val (.int w23), .unset, .unset, .unset, .unset, .unset, .unset, .unset] [(.int (0 : Int32)), (.int (2 : Int32)), (.long q3), (.long q4), (.long q3)]))
        obtain ⟨_, _, ⟨T198, L198, k198, n198⟩, -, X198, ⟨Lc198, hQ198, l198, y198, z198⟩, st198⟩ := Jvm.LawKit.callS X24 hx (y := (⟨"com/example/subjectory/subjectory/heading/ClassLinkEqualsPinLaw", "spec", "(JJJIZ)I"⟩ : MethodName)) hown (mvT hZ (hw _ (List.mem_of_getElem? (i := 0) rfl))) (mvT hZ (hw _ (List.mem_of_getElem? (i := 1) rfl))) (mvT hZ (hw _ (List.mem_of_getElem? (i := 2) rfl))) (mvT hZ (hw _ (List.mem_of_getElem? (i := 3) rfl))) (by decide) (backOf (W := 0) (rm1_2 l Z a0 hw [] q3 q4 q3 h0 n0 Z0 ) hZ (hw _ (List.mem_of_getElem? (i := 3) rfl)) (hw _ (List.mem_of_getElem? (i := 2) rfl)) (by decide) (by decide)) (g := (mkF m 120 #[.val (.long q1), .second, .val (.long q2), .second, .val (.long q3), .second, .val (.long q4), .second, .val (.int p5), .val (.int p6), .val (.int z8), .val (.int z10), .val (.int z12), .val (.int z14), .val (.int z16), .val (.int w19), .val (.int w23), .unset, .unset, .unset, .unset, .unset, .unset, .unset] [(.int (0 : Int32)), (.int (2 : Int32)), (.long q3), (.long q4), (.long q3)])) rfl (by rw [hml]; rfl) (argsL := [(.long q3), (.long q4), (.long q3), (.int (2 : Int32)), (.int (0 : Int32))]) (rest := []) (lenOf pd_8 rfl) rfl (by show 2 * 0 + _ ≤ _; exact Nat.le_of_eq rfl) (hb hby at_120) (fun _ _ => ⟨rfl, e24, (by decide : 0 + 0 ≤ _), (by decide : 0 + 0 ≤ _)⟩)
        dsimp only [Pt.U, Pt.locs, Pt.cells, Pt.slots] at X198 l198 y198 z198 st198 hQ198
        subst l198 y198 z198
        obtain ⟨rfl, N198q, e198q⟩ := hQ198
        have N198 := Fr.app N24 N198q
        obtain ⟨Lg198, Xg198, Ng198⟩ := Stand_gen X198 N198
        refine RunW.go st198 ?_
        show RunW p e below s Z own_EL 55 390 (Q_rm0 Z q1 q2 q3 q4 p5 p6 cs h0 n0) (T198.setTop (mkF m 123 #[.val (.long q1), .second, .val (.long q2), .second, .val (.long q3), .second, .val (.long q4), .second, .val (.int p5), .val (.int p6), .val (.int z8), .val (.int z10), .val (.int z12), .val (.int z14), .val (.int z16), .val (.int w19), .val (.int w23), .unset, .unset, .unset, .unset, .unset, .unset, .unset] [(.int (F_rm1_2 q3 q4 q3))]))
        exact J26 _ (by rw [if_pos hc197]) _ _ Xg198 e198q Ng198
      · refine RunW.go (fun _ k => XS.ifNo X24.here hx rfl (hb hby at_104) rfl ((if0 _ _).trans (feq hc197).1) k) ?_
        show RunW p e below s Z own_EL 55 390 (Q_rm0 Z q1 q2 q3 q4 p5 p6 cs h0 n0) (T24.setTop (mkF m 107 #[.val (.long q1), .second, .val (.long q2), .second, .val (.long q3), .second, .val (.long q4), .second, .val (.int p5), .val (.int p6), .val (.int z8), .val (.int z10), .val (.int z12), .val (.int z14), .val (.int z16), .val (.int w19), .val (.int w23), .unset, .unset, .unset, .unset, .unset, .unset, .unset] []))
        refine RunW.go (fun _ k => XS.iload X24.here hx rfl (hb hby at_107) rfl  k) ?_
        show RunW p e below s Z own_EL 55 390 (Q_rm0 Z q1 q2 q3 q4 p5 p6 cs h0 n0) (T24.setTop (mkF m 109 #[.val (.long q1), .second, .val (.long q2), .second, .val (.long q3), .second, .val (.long q4), .second, .val (.int p5), .val (.int p6), .val (.int z8), .val (.int z10), .val (.int z12), .val (.int z14), .val (.int z16), .val (.int w19), .val (.int w23), .unset, .unset, .unset, .unset, .unset, .unset, .unset] [(.int z12)]))
        refine RunW.go (fun _ k => XS.goto X24.here hx rfl (pc0 := 109) (pc' := 123) rfl (hb hby at_109) (by decide) (by decide) k) ?_
        show RunW p e below s Z own_EL 55 390 (Q_rm0 Z q1 q2 q3 q4 p5 p6 cs h0 n0) (T24.setTop (mkF m 123 #[.val (.long q1), .second, .val (.long q2), .second, .val (.long q3), .second, .val (.long q4), .second, .val (.int p5), .val (.int p6), .val (.int z8), .val (.int z10), .val (.int z12), .val (.int z14), .val (.int z16), .val (.int w19), .val (.int w23), .unset, .unset, .unset, .unset, .unset, .unset, .unset] [(.int z12)]))
        exact J26 _ (by rw [if_neg hc197]) _ _ X24 e24 N24
    by_cases hc199 : ((p5 &&& (2 : Int32)) = (0 : Int32))
    · refine RunW.go (fun _ k => XS.ifYes X20.here hx rfl (pc0 := 79) (pc' := 87) rfl (hb hby at_79) rfl ((if0 _ _).trans (teq hc199).1) (by decide) (by decide) k) ?_
      show RunW p e below s Z own_EL 55 390 (Q_rm0 Z q1 q2 q3 q4 p5 p6 cs h0 n0) (T20.setTop (mkF m 87 #[.val (.long q1), .second, .val (.long q2), .second, .val (.long q3), .second, .val (.long q4), .second, .val (.int p5), .val (.int p6), .val (.int z8), .val (.int z10), .val (.int z12), .val (.int z14), .val (.int z16), .val (.int w19), .unset, .unset, .unset, .unset, .unset, .unset, .unset, .unset] []))
      refine RunW.go (fun _ k => XS.lload X20.here hx rfl (hb hby at_87) rfl  k) ?_
      show RunW p e below s Z own_EL 55 390 (Q_rm0 Z q1 q2 q3 q4 p5 p6 cs h0 n0) (T20.setTop (mkF m 89 #[.val (.long q1), .second, .val (.long q2), .second, .val (.long q3), .second, .val (.long q4), .second, .val (.int p5), .val (.int p6), .val (.int z8), .val (.int z10), .val (.int z12), .val (.int z14), .val (.int z16), .val (.int w19), .unset, .unset, .unset, .unset, .unset, .unset, .unset, .unset] [(.long q3)]))
      refine RunW.go (fun _ k => XS.lload X20.here hx rfl (hb hby at_89) rfl  k) ?_
      show RunW p e below s Z own_EL 55 390 (Q_rm0 Z q1 q2 q3 q4 p5 p6 cs h0 n0) (T20.setTop (mkF m 91 #[.val (.long q1), .second, .val (.long q2), .second, .val (.long q3), .second, .val (.long q4), .second, .val (.int p5), .val (.int p6), .val (.int z8), .val (.int z10), .val (.int z12), .val (.int z14), .val (.int z16), .val (.int w19), .unset, .unset, .unset, .unset, .unset, .unset, .unset, .unset] [(.long q4), (.long q3)]))
      refine RunW.go (fun _ k => XS.lload X20.here hx rfl (hb hby at_91) rfl  k) ?_
      show RunW p e below s Z own_EL 55 390 (Q_rm0 Z q1 q2 q3 q4 p5 p6 cs h0 n0) (T20.setTop (mkF m 93 #[.val (.long q1), .second, .val (.long q2), .second, .val (.long q3), .second, .val (.long q4), .second, .val (.int p5), .val (.int p6), .val (.int z8), .val (.int z10), .val (.int z12), .val (.int z14), .val (.int z16), .val (.int w19), .unset, .unset, .unset, .unset, .unset, .unset, .unset, .unset] [(.long q3), (.long q4), (.long q3)]))
      refine RunW.go (fun _ k => XS.iconst X20.here hx rfl (hb hby at_93) k) ?_
      show RunW p e below s Z own_EL 55 390 (Q_rm0 Z q1 q2 q3 q4 p5 p6 cs h0 n0) (T20.setTop (mkF m 94 #[.val (.long q1), .second, .val (.long q2), .second, .val (.long q3), .second, .val (.long q4), .second, .val (.int p5), .val (.int p6), .val (.int z8), .val (.int z10), .val (.int z12), .val (.int z14), .val (.int z16), .val (.int w19), .unset, .unset, .unset, .unset, .unset, .unset, .unset, .unset] [(.int (1 : Int32)), (.long q3), (.long q4), (.long q3)]))
      refine RunW.go (fun _ k => XS.iconst X20.here hx rfl (hb hby at_94) k) ?_
      show RunW p e below s Z own_EL 55 390 (Q_rm0 Z q1 q2 q3 q4 p5 p6 cs h0 n0) (T20.setTop (mkF m 95 #[.val (.long q1), .second, .val (.long q2), .second, .val (.long q3), .second, .val (.long q4), .second, .val (.int p5), .val (.int p6), .val (.int z8), .val (.int z10), .val (.int z12), .val (.int z14), .val (.int z16), .val (.int w19), .unset, .unset, .unset, .unset, .unset, .unset, .unset, .unset] [(.int (1 : Int32)), (.int (1 : Int32)), (.long q3), (.long q4), (.long q3)]))
      obtain ⟨_, _, ⟨T200, L200, k200, n200⟩, -, X200, ⟨Lc200, hQ200, l200, y200, z200⟩, st200⟩ := Jvm.LawKit.callS X20 hx (y := (⟨"com/example/subjectory/subjectory/heading/ClassLinkEqualsPinLaw", "spec", "(JJJIZ)I"⟩ : MethodName)) hown (mvT hZ (hw _ (List.mem_of_getElem? (i := 0) rfl))) (mvT hZ (hw _ (List.mem_of_getElem? (i := 1) rfl))) (mvT hZ (hw _ (List.mem_of_getElem? (i := 2) rfl))) (mvT hZ (hw _ (List.mem_of_getElem? (i := 3) rfl))) (by decide) (backOf (W := 0) (rm1_1 l Z a0 hw [] q3 q4 q3 h0 n0 Z0 ) hZ (hw _ (List.mem_of_getElem? (i := 3) rfl)) (hw _ (List.mem_of_getElem? (i := 2) rfl)) (by decide) (by decide)) (g := (mkF m 95 #[.val (.long q1), .second, .val (.long q2), .second, .val (.long q3), .second, .val (.long q4), .second, .val (.int p5), .val (.int p6), .val (.int z8), .val (.int z10), .val (.int z12), .val (.int z14), .val (.int z16), .val (.int w19), .unset, .unset, .unset, .unset, .unset, .unset, .unset, .unset] [(.int (1 : Int32)), (.int (1 : Int32)), (.long q3), (.long q4), (.long q3)])) rfl (by rw [hml]; rfl) (argsL := [(.long q3), (.long q4), (.long q3), (.int (1 : Int32)), (.int (1 : Int32))]) (rest := []) (lenOf pd_8 rfl) rfl (by show 2 * 0 + _ ≤ _; exact Nat.le_of_eq rfl) (hb hby at_95) (fun _ _ => ⟨rfl, e20, (by decide : 0 + 0 ≤ _), (by decide : 0 + 0 ≤ _)⟩)
      dsimp only [Pt.U, Pt.locs, Pt.cells, Pt.slots] at X200 l200 y200 z200 st200 hQ200
      subst l200 y200 z200
      obtain ⟨rfl, N200q, e200q⟩ := hQ200
      have N200 := Fr.app N20 N200q
      obtain ⟨Lg200, Xg200, Ng200⟩ := Stand_gen X200 N200
      refine RunW.go st200 ?_
      show RunW p e below s Z own_EL 55 390 (Q_rm0 Z q1 q2 q3 q4 p5 p6 cs h0 n0) (T200.setTop (mkF m 98 #[.val (.long q1), .second, .val (.long q2), .second, .val (.long q3), .second, .val (.long q4), .second, .val (.int p5), .val (.int p6), .val (.int z8), .val (.int z10), .val (.int z12), .val (.int z14), .val (.int z16), .val (.int w19), .unset, .unset, .unset, .unset, .unset, .unset, .unset, .unset] [(.int (F_rm1_1 q3 q4 q3))]))
      exact J22 _ (by rw [if_pos hc199]) _ _ Xg200 e200q Ng200
    · refine RunW.go (fun _ k => XS.ifNo X20.here hx rfl (hb hby at_79) rfl ((if0 _ _).trans (feq hc199).1) k) ?_
      show RunW p e below s Z own_EL 55 390 (Q_rm0 Z q1 q2 q3 q4 p5 p6 cs h0 n0) (T20.setTop (mkF m 82 #[.val (.long q1), .second, .val (.long q2), .second, .val (.long q3), .second, .val (.long q4), .second, .val (.int p5), .val (.int p6), .val (.int z8), .val (.int z10), .val (.int z12), .val (.int z14), .val (.int z16), .val (.int w19), .unset, .unset, .unset, .unset, .unset, .unset, .unset, .unset] []))
      refine RunW.go (fun _ k => XS.iload X20.here hx rfl (hb hby at_82) rfl  k) ?_
      show RunW p e below s Z own_EL 55 390 (Q_rm0 Z q1 q2 q3 q4 p5 p6 cs h0 n0) (T20.setTop (mkF m 84 #[.val (.long q1), .second, .val (.long q2), .second, .val (.long q3), .second, .val (.long q4), .second, .val (.int p5), .val (.int p6), .val (.int z8), .val (.int z10), .val (.int z12), .val (.int z14), .val (.int z16), .val (.int w19), .unset, .unset, .unset, .unset, .unset, .unset, .unset, .unset] [(.int z10)]))
      refine RunW.go (fun _ k => XS.goto X20.here hx rfl (pc0 := 84) (pc' := 98) rfl (hb hby at_84) (by decide) (by decide) k) ?_
      show RunW p e below s Z own_EL 55 390 (Q_rm0 Z q1 q2 q3 q4 p5 p6 cs h0 n0) (T20.setTop (mkF m 98 #[.val (.long q1), .second, .val (.long q2), .second, .val (.long q3), .second, .val (.long q4), .second, .val (.int p5), .val (.int p6), .val (.int z8), .val (.int z10), .val (.int z12), .val (.int z14), .val (.int z16), .val (.int w19), .unset, .unset, .unset, .unset, .unset, .unset, .unset, .unset] [(.int z10)]))
      exact J22 _ (by rw [if_neg hc199]) _ _ X20 e20 N20
  by_cases hc201 : ((p5 &&& (1 : Int32)) = (0 : Int32))
  · refine RunW.go (fun _ k => XS.ifYes Xg15.here hx rfl (pc0 := 54) (pc' := 62) rfl (hb hby at_54) rfl ((if0 _ _).trans (teq hc201).1) (by decide) (by decide) k) ?_
    show RunW p e below s Z own_EL 55 390 (Q_rm0 Z q1 q2 q3 q4 p5 p6 cs h0 n0) (T15.setTop (mkF m 62 #[.val (.long q1), .second, .val (.long q2), .second, .val (.long q3), .second, .val (.long q4), .second, .val (.int p5), .val (.int p6), .val (.int z8), .val (.int z10), .val (.int z12), .val (.int z14), .val (.int z16), .unset, .unset, .unset, .unset, .unset, .unset, .unset, .unset, .unset] []))
    refine RunW.go (fun _ k => XS.lload Xg15.here hx rfl (hb hby at_62) rfl  k) ?_
    show RunW p e below s Z own_EL 55 390 (Q_rm0 Z q1 q2 q3 q4 p5 p6 cs h0 n0) (T15.setTop (mkF m 64 #[.val (.long q1), .second, .val (.long q2), .second, .val (.long q3), .second, .val (.long q4), .second, .val (.int p5), .val (.int p6), .val (.int z8), .val (.int z10), .val (.int z12), .val (.int z14), .val (.int z16), .unset, .unset, .unset, .unset, .unset, .unset, .unset, .unset, .unset] [(.long q3)]))
    refine RunW.go (fun _ k => XS.lload Xg15.here hx rfl (hb hby at_64) rfl  k) ?_
    show RunW p e below s Z own_EL 55 390 (Q_rm0 Z q1 q2 q3 q4 p5 p6 cs h0 n0) (T15.setTop (mkF m 66 #[.val (.long q1), .second, .val (.long q2), .second, .val (.long q3), .second, .val (.long q4), .second, .val (.int p5), .val (.int p6), .val (.int z8), .val (.int z10), .val (.int z12), .val (.int z14), .val (.int z16), .unset, .unset, .unset, .unset, .unset, .unset, .unset, .unset, .unset] [(.long q4), (.long q3)]))
    refine RunW.go (fun _ k => XS.lload Xg15.here hx rfl (hb hby at_66) rfl  k) ?_
    show RunW p e below s Z own_EL 55 390 (Q_rm0 Z q1 q2 q3 q4 p5 p6 cs h0 n0) (T15.setTop (mkF m 68 #[.val (.long q1), .second, .val (.long q2), .second, .val (.long q3), .second, .val (.long q4), .second, .val (.int p5), .val (.int p6), .val (.int z8), .val (.int z10), .val (.int z12), .val (.int z14), .val (.int z16), .unset, .unset, .unset, .unset, .unset, .unset, .unset, .unset, .unset] [(.long q3), (.long q4), (.long q3)]))
    refine RunW.go (fun _ k => XS.iconst Xg15.here hx rfl (hb hby at_68) k) ?_
    show RunW p e below s Z own_EL 55 390 (Q_rm0 Z q1 q2 q3 q4 p5 p6 cs h0 n0) (T15.setTop (mkF m 69 #[.val (.long q1), .second, .val (.long q2), .second, .val (.long q3), .second, .val (.long q4), .second, .val (.int p5), .val (.int p6), .val (.int z8), .val (.int z10), .val (.int z12), .val (.int z14), .val (.int z16), .unset, .unset, .unset, .unset, .unset, .unset, .unset, .unset, .unset] [(.int (0 : Int32)), (.long q3), (.long q4), (.long q3)]))
    refine RunW.go (fun _ k => XS.iconst Xg15.here hx rfl (hb hby at_69) k) ?_
    show RunW p e below s Z own_EL 55 390 (Q_rm0 Z q1 q2 q3 q4 p5 p6 cs h0 n0) (T15.setTop (mkF m 70 #[.val (.long q1), .second, .val (.long q2), .second, .val (.long q3), .second, .val (.long q4), .second, .val (.int p5), .val (.int p6), .val (.int z8), .val (.int z10), .val (.int z12), .val (.int z14), .val (.int z16), .unset, .unset, .unset, .unset, .unset, .unset, .unset, .unset, .unset] [(.int (0 : Int32)), (.int (0 : Int32)), (.long q3), (.long q4), (.long q3)]))
    obtain ⟨_, _, ⟨T202, L202, k202, n202⟩, -, X202, ⟨Lc202, hQ202, l202, y202, z202⟩, st202⟩ := Jvm.LawKit.callS Xg15 hx (y := (⟨"com/example/subjectory/subjectory/heading/ClassLinkEqualsPinLaw", "spec", "(JJJIZ)I"⟩ : MethodName)) hown (mvT hZ (hw _ (List.mem_of_getElem? (i := 0) rfl))) (mvT hZ (hw _ (List.mem_of_getElem? (i := 1) rfl))) (mvT hZ (hw _ (List.mem_of_getElem? (i := 2) rfl))) (mvT hZ (hw _ (List.mem_of_getElem? (i := 3) rfl))) (by decide) (backOf (W := 0) (rm1_0 l Z a0 hw [] q3 q4 q3 h0 n0 Z0 ) hZ (hw _ (List.mem_of_getElem? (i := 3) rfl)) (hw _ (List.mem_of_getElem? (i := 2) rfl)) (by decide) (by decide)) (g := (mkF m 70 #[.val (.long q1), .second, .val (.long q2), .second, .val (.long q3), .second, .val (.long q4), .second, .val (.int p5), .val (.int p6), .val (.int z8), .val (.int z10), .val (.int z12), .val (.int z14), .val (.int z16), .unset, .unset, .unset, .unset, .unset, .unset, .unset, .unset, .unset] [(.int (0 : Int32)), (.int (0 : Int32)), (.long q3), (.long q4), (.long q3)])) rfl (by rw [hml]; rfl) (argsL := [(.long q3), (.long q4), (.long q3), (.int (0 : Int32)), (.int (0 : Int32))]) (rest := []) (lenOf pd_8 rfl) rfl (by show 2 * 0 + _ ≤ _; exact Nat.le_of_eq rfl) (hb hby at_70) (fun _ _ => ⟨rfl, e15q, (by decide : 0 + 0 ≤ _), (by decide : 0 + 0 ≤ _)⟩)
    dsimp only [Pt.U, Pt.locs, Pt.cells, Pt.slots] at X202 l202 y202 z202 st202 hQ202
    subst l202 y202 z202
    obtain ⟨rfl, N202q, e202q⟩ := hQ202
    have N202 := Fr.app Ng15 N202q
    obtain ⟨Lg202, Xg202, Ng202⟩ := Stand_gen X202 N202
    refine RunW.go st202 ?_
    show RunW p e below s Z own_EL 55 390 (Q_rm0 Z q1 q2 q3 q4 p5 p6 cs h0 n0) (T202.setTop (mkF m 73 #[.val (.long q1), .second, .val (.long q2), .second, .val (.long q3), .second, .val (.long q4), .second, .val (.int p5), .val (.int p6), .val (.int z8), .val (.int z10), .val (.int z12), .val (.int z14), .val (.int z16), .unset, .unset, .unset, .unset, .unset, .unset, .unset, .unset, .unset] [(.int (F_rm1_0 q3 q4 q3))]))
    exact J18 _ (by rw [if_pos hc201]) _ _ Xg202 e202q Ng202
  · refine RunW.go (fun _ k => XS.ifNo Xg15.here hx rfl (hb hby at_54) rfl ((if0 _ _).trans (feq hc201).1) k) ?_
    show RunW p e below s Z own_EL 55 390 (Q_rm0 Z q1 q2 q3 q4 p5 p6 cs h0 n0) (T15.setTop (mkF m 57 #[.val (.long q1), .second, .val (.long q2), .second, .val (.long q3), .second, .val (.long q4), .second, .val (.int p5), .val (.int p6), .val (.int z8), .val (.int z10), .val (.int z12), .val (.int z14), .val (.int z16), .unset, .unset, .unset, .unset, .unset, .unset, .unset, .unset, .unset] []))
    refine RunW.go (fun _ k => XS.iload Xg15.here hx rfl (hb hby at_57) rfl  k) ?_
    show RunW p e below s Z own_EL 55 390 (Q_rm0 Z q1 q2 q3 q4 p5 p6 cs h0 n0) (T15.setTop (mkF m 59 #[.val (.long q1), .second, .val (.long q2), .second, .val (.long q3), .second, .val (.long q4), .second, .val (.int p5), .val (.int p6), .val (.int z8), .val (.int z10), .val (.int z12), .val (.int z14), .val (.int z16), .unset, .unset, .unset, .unset, .unset, .unset, .unset, .unset, .unset] [(.int z8)]))
    refine RunW.go (fun _ k => XS.goto Xg15.here hx rfl (pc0 := 59) (pc' := 73) rfl (hb hby at_59) (by decide) (by decide) k) ?_
    show RunW p e below s Z own_EL 55 390 (Q_rm0 Z q1 q2 q3 q4 p5 p6 cs h0 n0) (T15.setTop (mkF m 73 #[.val (.long q1), .second, .val (.long q2), .second, .val (.long q3), .second, .val (.long q4), .second, .val (.int p5), .val (.int p6), .val (.int z8), .val (.int z10), .val (.int z12), .val (.int z14), .val (.int z16), .unset, .unset, .unset, .unset, .unset, .unset, .unset, .unset, .unset] [(.int z8)]))
    exact J18 _ (by rw [if_neg hc201]) _ _ Xg15 e15q Ng15
set_option maxRecDepth 65536 in
set_option maxHeartbeats 40000000 in
theorem comes_1 {Post : Tables → Env → Array Value → State → Outcome → State → Prop} (hpost : ∀ tb e args s v u, (limb_1_1.after args s (.returned v) u = true ∧ limb_1_2.after args s (.returned v) u = true ∧ True) → ReturnedEndW s (.returned v) u (Jvm.fieldLocs frame_1_writes args s ++ Jvm.arrayLocs frame_1_arrays args s ++ Jvm.staticLocs frame_1_statics s) 80 6400 → Post tb e args s (.returned v) u) :
    ArmFor flags0 classFile x code maxLocals ret World_1 tables_1 room_1 Calls_1 rest_1 Pre_1 Post := by
  intro l hfl _ _ p e ha hc hk s m args below hf hA hF happ hP
  obtain ⟨hcalls, hrest, hpre⟩ := hP
  obtain ⟨-, -, -, hnamed, -, -, -, hat⟩ := (Spec.applies_iff hf).mp happ
  obtain ⟨hg, hn⟩ := and_e (Cond.before_iff.mp (show (Jvm.Cond.and given_1 narrow_1).before args s = true from hpre))
  obtain ⟨g1, g2⟩ := and_e hg
  obtain ⟨g3, g4⟩ := and_e g2
  obtain ⟨g5, g6⟩ := and_e g4
  obtain ⟨g7, g8⟩ := and_e g6
  obtain ⟨g9, g10⟩ := and_e g8
  obtain ⟨g11, g12⟩ := and_e g10
  obtain ⟨w0, w1, w2, w3, w4, w5, rfl⟩ : ∃ w0 w1 w2 w3 w4 w5 : Value, args = #[w0, w1, w2, w3, w4, w5] := by
    have hs : args.size = 6 := by simpa [Cond.value, given_1] using g1
    obtain ⟨L⟩ := args
    match L, hs with
    | [w0, w1, w2, w3, w4, w5], _ => exact ⟨w0, w1, w2, w3, w4, w5, rfl⟩
  have hw := fun d (hd : d ∈ tables_1) => atoms_spec (ws := Jvm.Cond.code x code maxLocals ret :: tables_1) hat d (List.mem_cons_of_mem _ hd)
  have hfit : Fit s := fun {y c} hc i hi => by
    obtain ⟨ha, rfl⟩ := Array.getElem?_eq_some_iff.mp hc
    have q := List.all_eq_true.mp ((Array.all_eq_true_iff_forall_mem.mp hF) _ (Array.getElem_mem ha)) i (List.mem_range.mpr hi)
    simpa [Array.getElem?_eq_getElem hi] using q
  obtain ⟨hsets, hown0⟩ := atoms_of _ (rest_1_c_eq ▸ (show rest_1_c.before _ s = true from hrest))
  have hr0 := Cond.before_iff.mp hown0
  obtain ⟨i0, ei0⟩ := isL_v g3
  obtain rfl : w0 = (.long i0) := Option.some.inj ei0
  obtain ⟨i1, ei1⟩ := isL_v g5
  obtain rfl : w1 = (.long i1) := Option.some.inj ei1
  obtain ⟨i2, ei2⟩ := isL_v g7
  obtain rfl : w2 = (.long i2) := Option.some.inj ei2
  obtain ⟨i3, ei3⟩ := isL_v g9
  obtain rfl : w3 = (.long i3) := Option.some.inj ei3
  obtain ⟨i4, ei4⟩ := is_v g11
  obtain rfl : w4 = (.int i4) := Option.some.inj ei4
  obtain ⟨i5, ei5⟩ := is_v g12
  obtain rfl : w5 = (.int i5) := Option.some.inj ei5
  have nz := not_v (Cond.before_iff.mp (hsets _ (List.mem_of_getElem? (i := 2) rfl)))
  obtain ⟨cs, ecs⟩ := is_v (Cond.before_iff.mp (hsets _ (List.mem_of_getElem? (i := 1) rfl)))
  have Scs : Sta s s.heap "java/lang/String" "COMPACT_STRINGS" "Z" (.int cs) := Sta.start ecs (Or.inl (hsets _ (List.mem_of_getElem? (i := 0) rfl)))
  have hcs : ¬ (cs = (0 : Int32)) := fun q => by subst q; rw [eq_i ecs (Term.int_eval 0) rfl] at nz; cases nz
  have hCH : CHv s own_EL s.vm s.heap := CHv.start (own_ew hw) (fun p hp => hcalls.1 p (own_sub p hp)) (hsets _ (List.mem_of_getElem? (i := 2) rfl)) (hw _ (List.mem_of_getElem? (i := 15) rfl)) (hw _ (List.mem_of_getElem? (i := 14) rfl))
  obtain ⟨n, o, h1, h2, h3, _, L, rfl, ⟨rfl, N⟩, -, hq⟩ := rm0 l s _ hw tables_1 i0 i1 i2 i3 i4 i5 cs s.heap s.heap.size (Nat.le_refl _) Scs hcs p e ha hc hk s m _ below hf ((Spec.applies_iff_loose hf).mp happ).1 ⟨rfl, State.Warmed39.refl s, rfl, hCH⟩ trivial
  refine ⟨n, _, h1, h2, h3, hpost _ _ _ _ _ _ ⟨Cond.after_iff.mpr rfl, Cond.after_iff.mpr (eq_i res_at (Term.int_eval (1)) rfl), trivial⟩ ⟨hq.1, hq.2.1, hq.2.2.1, (hq.2.2.2.sift fun y hy => Or.inr (N y hy)).mono (by decide) (by decide)⟩⟩
theorem main_1_1 : Claimed_1_1 := comes_1 fun _ _ _ _ _ _ h hF => ⟨h.1, hF⟩
theorem main_1_2 : Claimed_1_2 := comes_1 fun _ _ _ _ _ _ h hF => ⟨h.2.1, hF⟩
end Jvm.Pilot.@@N@@
namespace Jvm.Pilot.@@N@@
open Jvm Jvm.ClassFile Sem Op Lib Jvm.Free Jvm.Stand Jvm.Pilot.@@N@@.Jvm.D
/-! MADE BY PROGRAM (witnessworld.py) out of the Statement's table words and the real class files: 21 classes; the members and pool entries that the words name. The judged class is class 1, her method 3. -/
namespace start1
open Jvm.ClassFile
def u (s : String) : CpInfo := .utf8 (stringToUtf16 s)
/-- a pool by its gaps: so many unusable entries, then the entry; so many at the end -/
def gap : Nat → List CpInfo → List CpInfo
  | 0, r => r
  | n + 1, r => .unusable :: gap n r
def poolList (es : List (Nat × CpInfo)) (last : Nat) : List CpInfo := es.foldr (fun e r => gap e.1 (e.2 :: r)) (gap last [])
def pool (es : List (Nat × CpInfo)) (last : Nat) : Array CpInfo := ⟨poolList es last⟩
def fileOf (pool : Array CpInfo) (this : Nat) (attrs : Array Attribute := #[]) (ms : Array MethodInfo := #[]) (fl : Nat := 33) (sup : Nat := 0) (ifs : Array Nat := #[]) (fds : Array FieldInfo := #[]) : ClassFile where
  minorVersion := 0
  majorVersion := 65
  constantPool := pool
  accessFlags := fl
  thisClass := this
  superClass := sup
  interfaces := ifs
  fields := fds
  methods := ms
  attributes := attrs
def plain (name : String) (sup : Option ClassId) : Class where
  name := name
  kind := .ordinary
  loader := none
  accessFlags := 33
  super := sup
  interfaces := #[]
  cf := none
  fields := #[]
  methods := #[]
  instanceTypes := #[]
  staticTypes := #[]
  resolved := #[]
  callSites := []
  init := .initialized
  statics := none
  mirror := none

def pool0 : Array CpInfo := pool [(5, u "<init>"), (0, u "()V"), (1, .class_ 10), (1, u "java/lang/Object")] 113

def k0c0 : Code := { maxStack := 0, maxLocals := 1, code := object_method_1_code, exceptionTable := #[], attributes := #[] }
def k0m0 : Method := { name := "<init>", desc := "()V", sig := { parameters := [], returnType := none }, accessFlags := 1, code := some k0c0 }
/-- java/lang/Object -/
def k0 : Class := { plain "java/lang/Object" none with
  accessFlags := 33
  interfaces := #[]
  cf := some (fileOf pool0 8 #[] #[{ accessFlags := 1, nameIndex := 5, descriptorIndex := 6, attributes := #[] }] 33 0 #[] #[])
  fields := #[]
  methods := #[k0m0]
  instanceTypes := #[]
  staticTypes := #[]
  resolved := Array.replicate 124 none
  statics := none }

def pool1 : Array CpInfo := pool [(2, .class_ 4), (1, u "java/lang/Object"), (0, u "<init>"), (0, u "()V"), (0, .long 3), (1, .long 255), (1, .string 12), (0, u ""), (0, .methodref 14 15), (0, .class_ 16), (0, .nameAndType 17 18), (0, u "java/lang/String"), (0, u "valueOf"), (0, u "(C)Ljava/lang/String;"), (0, .methodref 14 20), (0, .nameAndType 5 21), (0, u "([C)V"), (0, .methodref 23 24), (0, .class_ 25), (0, .nameAndType 26 27), (0, u "com/example/subjectory/subjectory/heading/ClassLinkEqualsPinLaw"), (0, u "spec"), (0, u "(JJJIZ)I"), (0, .class_ 29), (0, u "com/example/subjectory/subjectory/heading/ClassLink"), (0, .methodref 23 31), (0, .nameAndType 32 33), (0, u "str"), (0, u "(I)Ljava/lang/String;"), (0, .methodref 28 35), (0, .nameAndType 5 36), (0, u "(Ljava/lang/String;Ljava/lang/String;Ljava/lang/String;Ljava/lang/String;Ljava/lang/String;)V"), (0, .methodref 28 38), (0, .nameAndType 39 40), (0, u "equals"), (0, u "(Ljava/lang/Object;)Z"), (3, u "law"), (0, u "(JJJJII)Z")] 2

def k1m0 : Method := { name := "<init>", desc := "()V", sig := { parameters := [], returnType := none }, accessFlags := 1, code := none }
def k1c1 : Code := { maxStack := 5, maxLocals := 12, code := method_2_code, exceptionTable := #[], attributes := #[] }
def k1m1 : Method := { name := "spec", desc := "(JJJIZ)I", sig := { parameters := [.long, .long, .long, .int, .boolean], returnType := some .int }, accessFlags := 10, code := some k1c1 }
def k1c2 : Code := { maxStack := 6, maxLocals := 4, code := method_3_code, exceptionTable := #[], attributes := #[] }
def k1m2 : Method := { name := "str", desc := "(I)Ljava/lang/String;", sig := { parameters := [.int], returnType := some (.object "java/lang/String") }, accessFlags := 10, code := some k1c2 }
def k1c3 : Code := { maxStack := 8, maxLocals := 24, code := code, exceptionTable := #[], attributes := #[] }
def k1m3 : Method := { name := "law", desc := "(JJJJII)Z", sig := { parameters := [.long, .long, .long, .long, .int, .int], returnType := some .boolean }, accessFlags := 9, code := some k1c3 }
/-- com/example/subjectory/subjectory/heading/ClassLinkEqualsPinLaw -/
def k1 : Class := { plain "com/example/subjectory/subjectory/heading/ClassLinkEqualsPinLaw" (some 0) with
  accessFlags := 49
  interfaces := #[]
  cf := some (fileOf pool1 23 #[] #[{ accessFlags := 1, nameIndex := 5, descriptorIndex := 6, attributes := #[] }, { accessFlags := 10, nameIndex := 26, descriptorIndex := 27, attributes := #[] }, { accessFlags := 10, nameIndex := 32, descriptorIndex := 33, attributes := #[] }, { accessFlags := 9, nameIndex := 44, descriptorIndex := 45, attributes := #[] }] 49 2 #[] #[])
  fields := #[]
  methods := #[k1m0, k1m1, k1m2, k1m3]
  instanceTypes := #[]
  staticTypes := #[]
  resolved := Array.replicate 48 none
  statics := none }

def pool2 : Array CpInfo := pool [(1, .methodref 2 3), (0, .class_ 4), (0, .nameAndType 5 6), (0, u "java/lang/Object"), (0, u "<init>"), (0, u "()V"), (0, .string 8), (0, u "number"), (0, .methodref 10 11), (0, .class_ 12), (0, .nameAndType 13 14), (0, u "java/util/Objects"), (0, u "requireNonNull"), (0, u "(Ljava/lang/Object;Ljava/lang/String;)Ljava/lang/Object;"), (0, .class_ 16), (0, u "java/lang/String"), (0, .methodref 15 18), (0, .nameAndType 19 20), (0, u "isEmpty"), (0, u "()Z"), (0, .string 22), (0, u "term"), (7, .string 31), (0, u "scheme"), (0, .fieldref 33 34), (0, .class_ 35), (0, .nameAndType 31 36), (0, u "com/example/subjectory/subjectory/heading/ClassLink"), (0, u "Ljava/lang/String;"), (0, .fieldref 33 38), (0, .nameAndType 8 36), (0, .string 40), (0, u "caption"), (0, .fieldref 33 42), (0, .nameAndType 40 36), (0, .string 44), (0, u "tag"), (0, .fieldref 33 46), (0, .nameAndType 44 36), (0, .fieldref 33 48), (0, .nameAndType 22 36), (55, u "TERM_SUBFIELDS"), (0, u "Ljava/util/Map;"), (18, u "(Ljava/lang/String;Ljava/lang/String;Ljava/lang/String;Ljava/lang/String;Ljava/lang/String;)V"), (3, u "(Ljava/lang/Object;)Z"), (0, .methodref 15 130), (0, .nameAndType 131 128), (0, u "equals"), (53, u "SCHEME_TAG"), (1, u "CLASS_NUMBER_TAG"), (2, u "TABLE_PREFIX"), (2, u "TABLE_MARK"), (2, u "SPAN_MARK")] 30

def k2c0 : Code := { maxStack := 3, maxLocals := 6, code := prog_4_method_1_code, exceptionTable := #[], attributes := #[] }
def k2m0 : Method := { name := "<init>", desc := "(Ljava/lang/String;Ljava/lang/String;Ljava/lang/String;Ljava/lang/String;Ljava/lang/String;)V", sig := { parameters := [(.object "java/lang/String"), (.object "java/lang/String"), (.object "java/lang/String"), (.object "java/lang/String"), (.object "java/lang/String")], returnType := none }, accessFlags := 1, code := some k2c0 }
def k2c1 : Code := { maxStack := 2, maxLocals := 3, code := prog_4_method_8_code, exceptionTable := #[], attributes := #[] }
def k2m1 : Method := { name := "equals", desc := "(Ljava/lang/Object;)Z", sig := { parameters := [(.object "java/lang/Object")], returnType := some .boolean }, accessFlags := 1, code := some k2c1 }
/-- com/example/subjectory/subjectory/heading/ClassLink -/
def k2 : Class := { plain "com/example/subjectory/subjectory/heading/ClassLink" (some 0) with
  accessFlags := 49
  interfaces := #[]
  cf := some (fileOf pool2 33 #[] #[{ accessFlags := 1, nameIndex := 5, descriptorIndex := 124, attributes := #[] }, { accessFlags := 1, nameIndex := 131, descriptorIndex := 128, attributes := #[] }] 49 2 #[] #[{ accessFlags := 26, nameIndex := 185, descriptorIndex := 36, attributes := #[] }, { accessFlags := 26, nameIndex := 187, descriptorIndex := 36, attributes := #[] }, { accessFlags := 26, nameIndex := 104, descriptorIndex := 105, attributes := #[] }, { accessFlags := 26, nameIndex := 190, descriptorIndex := 36, attributes := #[] }, { accessFlags := 26, nameIndex := 193, descriptorIndex := 36, attributes := #[] }, { accessFlags := 26, nameIndex := 196, descriptorIndex := 36, attributes := #[] }, { accessFlags := 18, nameIndex := 31, descriptorIndex := 36, attributes := #[] }, { accessFlags := 18, nameIndex := 8, descriptorIndex := 36, attributes := #[] }, { accessFlags := 18, nameIndex := 40, descriptorIndex := 36, attributes := #[] }, { accessFlags := 18, nameIndex := 44, descriptorIndex := 36, attributes := #[] }, { accessFlags := 18, nameIndex := 22, descriptorIndex := 36, attributes := #[] }])
  fields := #[{ name := "SCHEME_TAG", type := (.object "java/lang/String"), accessFlags := 26, slot := 0, constantValue := 0 }, { name := "CLASS_NUMBER_TAG", type := (.object "java/lang/String"), accessFlags := 26, slot := 1, constantValue := 0 }, { name := "TERM_SUBFIELDS", type := (.object "java/util/Map"), accessFlags := 26, slot := 2, constantValue := 0 }, { name := "TABLE_PREFIX", type := (.object "java/lang/String"), accessFlags := 26, slot := 3, constantValue := 0 }, { name := "TABLE_MARK", type := (.object "java/lang/String"), accessFlags := 26, slot := 4, constantValue := 0 }, { name := "SPAN_MARK", type := (.object "java/lang/String"), accessFlags := 26, slot := 5, constantValue := 0 }, { name := "scheme", type := (.object "java/lang/String"), accessFlags := 18, slot := 0, constantValue := 0 }, { name := "number", type := (.object "java/lang/String"), accessFlags := 18, slot := 1, constantValue := 0 }, { name := "caption", type := (.object "java/lang/String"), accessFlags := 18, slot := 2, constantValue := 0 }, { name := "tag", type := (.object "java/lang/String"), accessFlags := 18, slot := 3, constantValue := 0 }, { name := "term", type := (.object "java/lang/String"), accessFlags := 18, slot := 4, constantValue := 0 }]
  methods := #[k2m0, k2m1]
  instanceTypes := #[(.object "java/lang/String"), (.object "java/lang/String"), (.object "java/lang/String"), (.object "java/lang/String"), (.object "java/lang/String")]
  staticTypes := #[(.object "java/lang/String"), (.object "java/lang/String"), (.object "java/util/Map"), (.object "java/lang/String"), (.object "java/lang/String"), (.object "java/lang/String")]
  resolved := Array.replicate 227 none
  statics := none }

def pool3 : Array CpInfo := pool [(1, .class_ 2), (0, u "java/io/Serializable"), (0, .class_ 4), (0, u "java/lang/Object")] 2

/-- java/io/Serializable -/
def k3 : Class := { plain "java/io/Serializable" (some 0) with
  accessFlags := 1537
  interfaces := #[]
  cf := some (fileOf pool3 1 #[] #[] 1537 3 #[] #[])
  fields := #[]
  methods := #[]
  instanceTypes := #[]
  staticTypes := #[]
  resolved := Array.replicate 7 none
  statics := none }

def pool4 : Array CpInfo := pool [(1, .class_ 2), (0, u "java/lang/Comparable"), (0, .class_ 4), (0, u "java/lang/Object")] 7

/-- java/lang/Comparable -/
def k4 : Class := { plain "java/lang/Comparable" (some 0) with
  accessFlags := 1537
  interfaces := #[]
  cf := some (fileOf pool4 1 #[] #[] 1537 3 #[] #[])
  fields := #[]
  methods := #[]
  instanceTypes := #[]
  staticTypes := #[]
  resolved := Array.replicate 12 none
  statics := none }

def pool5 : Array CpInfo := pool [(2, .class_ 4), (1, u "java/lang/CharSequence"), (42, .class_ 48), (0, u "java/lang/CharSequence$1CodePointIterator"), (10, .class_ 60), (0, u "java/lang/CharSequence$1CharIterator"), (5, .class_ 67), (0, u "java/lang/Object")] 63

/-- java/lang/CharSequence -/
def k5 : Class := { plain "java/lang/CharSequence" (some 0) with
  accessFlags := 1537
  interfaces := #[]
  cf := some (fileOf pool5 2 #[.nestMembers #[47, 59]] #[] 1537 66 #[] #[])
  fields := #[]
  methods := #[]
  instanceTypes := #[]
  staticTypes := #[]
  resolved := Array.replicate 131 none
  statics := none }

def pool6 : Array CpInfo := pool [(1, .class_ 2), (0, u "java/lang/constant/Constable"), (0, .class_ 4), (0, u "java/lang/Object")] 6

/-- java/lang/constant/Constable -/
def k6 : Class := { plain "java/lang/constant/Constable" (some 0) with
  accessFlags := 1537
  interfaces := #[]
  cf := some (fileOf pool6 1 #[] #[] 1537 3 #[] #[])
  fields := #[]
  methods := #[]
  instanceTypes := #[]
  staticTypes := #[]
  resolved := Array.replicate 11 none
  statics := none }

def pool7 : Array CpInfo := pool [(1, .class_ 2), (0, u "java/lang/constant/ConstantDesc"), (0, .class_ 4), (0, u "java/lang/Object")] 32

/-- java/lang/constant/ConstantDesc -/
def k7 : Class := { plain "java/lang/constant/ConstantDesc" (some 0) with
  accessFlags := 1537
  interfaces := #[]
  cf := some (fileOf pool7 1 #[] #[] 1537 3 #[] #[])
  fields := #[]
  methods := #[]
  instanceTypes := #[]
  staticTypes := #[]
  resolved := Array.replicate 37 none
  statics := none }

def pool8 : Array CpInfo := pool [(1, .methodref 2 3), (0, .class_ 4), (0, .nameAndType 5 6), (0, u "java/lang/Object"), (0, u "<init>"), (0, u "()V"), (2, .fieldref 10 11), (0, .class_ 12), (0, .nameAndType 13 14), (0, u "java/lang/String"), (0, u "value"), (0, u "[B"), (0, .fieldref 10 16), (0, .nameAndType 17 18), (0, u "coder"), (0, u "B"), (2, u "hash"), (0, u "I"), (2, u "hashIsZero"), (0, u "Z"), (0, .methodref 10 28), (0, .nameAndType 5 29), (0, u "([CIILjava/lang/Void;)V"), (8, .fieldref 10 39), (0, .nameAndType 40 26), (0, u "COMPACT_STRINGS"), (1, .class_ 44), (1, u "java/lang/StringUTF16"), (0, u "compress"), (1, .methodref 42 48), (0, .nameAndType 49 50), (0, u "coderFromArrayLen"), (0, u "([BI)B"), (2, u "toBytes"), (53, .class_ 109), (1, u "java/lang/StringLatin1"), (32, u "()Z"), (34, .methodref 42 178), (0, .nameAndType 45 179), (0, u "([CII)[B"), (29, .methodref 10 210), (0, .nameAndType 5 211), (0, u "([BB)V"), (157, u "(C)Z"), (171, .methodref 107 542), (0, .nameAndType 543 544), (0, u "equals"), (0, u "([B[B)Z"), (28, u "(Ljava/lang/Object;)Z"), (1, .class_ 576), (0, u "java/lang/CharSequence"), (22, u "CASE_INSENSITIVE_ORDER"), (0, u "Ljava/util/Comparator;"), (91, u "isEmpty"), (89, u "valueOf"), (0, u "(C)Ljava/lang/String;"), (226, u "([C)V"), (4, .methodref 107 1016), (0, .nameAndType 1017 369), (0, u "canEncode"), (0, .methodref 107 1019), (0, .nameAndType 53 1020), (0, u "(C)[B"), (80, u "serialPersistentFields"), (0, u "[Ljava/io/ObjectStreamField;"), (0, .class_ 1104), (0, u "java/lang/String$CaseInsensitiveComparator"), (1, .class_ 1107), (0, u "java/io/Serializable"), (0, .class_ 1109), (0, u "java/lang/Comparable"), (0, .class_ 1111), (0, u "java/lang/constant/Constable"), (0, .class_ 1113), (0, u "java/lang/constant/ConstantDesc"), (2, u "serialVersionUID"), (0, u "J"), (3, u "REPL"), (0, u "C"), (2, u "LATIN1"), (1, u "UTF16")] 323

def k8m0 : Method := { name := "<init>", desc := "()V", sig := { parameters := [], returnType := none }, accessFlags := 1, code := none }
def k8c1 : Code := { maxStack := 5, maxLocals := 2, code := jdk_42_method_3_code, exceptionTable := #[], attributes := #[] }
def k8m1 : Method := { name := "<init>", desc := "([C)V", sig := { parameters := [(.array .char)], returnType := none }, accessFlags := 1, code := some k8c1 }
def k8c2 : Code := { maxStack := 1, maxLocals := 1, code := jdk_42_method_55_code, exceptionTable := #[], attributes := #[] }
def k8m2 : Method := { name := "isEmpty", desc := "()Z", sig := { parameters := [], returnType := some .boolean }, accessFlags := 1, code := some k8c2 }
def k8c3 : Code := { maxStack := 2, maxLocals := 3, code := jdk_42_method_66_code, exceptionTable := #[], attributes := #[] }
def k8m3 : Method := { name := "equals", desc := "(Ljava/lang/Object;)Z", sig := { parameters := [(.object "java/lang/Object")], returnType := some .boolean }, accessFlags := 1, code := some k8c3 }
def k8c4 : Code := { maxStack := 4, maxLocals := 1, code := jdk_42_method_139_code, exceptionTable := #[], attributes := #[] }
def k8m4 : Method := { name := "valueOf", desc := "(C)Ljava/lang/String;", sig := { parameters := [.char], returnType := some (.object "java/lang/String") }, accessFlags := 9, code := some k8c4 }
def k8c5 : Code := { maxStack := 4, maxLocals := 6, code := jdk_42_method_149_code, exceptionTable := #[], attributes := #[] }
def k8m5 : Method := { name := "<init>", desc := "([CIILjava/lang/Void;)V", sig := { parameters := [(.array .char), .int, .int, (.object "java/lang/Void")], returnType := none }, accessFlags := 2, code := some k8c5 }
def k8c6 : Code := { maxStack := 2, maxLocals := 3, code := jdk_42_method_151_code, exceptionTable := #[], attributes := #[] }
def k8m6 : Method := { name := "<init>", desc := "([BB)V", sig := { parameters := [(.array .byte), .byte], returnType := none }, accessFlags := 0, code := some k8c6 }
/-- java/lang/String -/
def k8 : Class := { plain "java/lang/String" (some 0) with
  accessFlags := 49
  interfaces := #[3, 4, 5, 6, 7]
  cf := some (fileOf pool8 10 #[.nestMembers #[1103]] #[{ accessFlags := 1, nameIndex := 5, descriptorIndex := 6, attributes := #[] }, { accessFlags := 1, nameIndex := 5, descriptorIndex := 1010, attributes := #[] }, { accessFlags := 1, nameIndex := 692, descriptorIndex := 142, attributes := #[] }, { accessFlags := 1, nameIndex := 543, descriptorIndex := 573, attributes := #[] }, { accessFlags := 9, nameIndex := 782, descriptorIndex := 783, attributes := #[] }, { accessFlags := 2, nameIndex := 5, descriptorIndex := 29, attributes := #[] }, { accessFlags := 0, nameIndex := 5, descriptorIndex := 211, attributes := #[] }] 49 2 #[1106, 1108, 575, 1110, 1112] #[{ accessFlags := 18, nameIndex := 13, descriptorIndex := 14, attributes := #[] }, { accessFlags := 18, nameIndex := 17, descriptorIndex := 18, attributes := #[] }, { accessFlags := 2, nameIndex := 21, descriptorIndex := 22, attributes := #[] }, { accessFlags := 2, nameIndex := 25, descriptorIndex := 26, attributes := #[] }, { accessFlags := 26, nameIndex := 1116, descriptorIndex := 1117, attributes := #[] }, { accessFlags := 24, nameIndex := 40, descriptorIndex := 26, attributes := #[] }, { accessFlags := 26, nameIndex := 1101, descriptorIndex := 1102, attributes := #[] }, { accessFlags := 26, nameIndex := 1121, descriptorIndex := 1122, attributes := #[] }, { accessFlags := 25, nameIndex := 599, descriptorIndex := 600, attributes := #[] }, { accessFlags := 24, nameIndex := 1125, descriptorIndex := 18, attributes := #[] }, { accessFlags := 24, nameIndex := 1127, descriptorIndex := 18, attributes := #[] }])
  fields := #[{ name := "value", type := (.array .byte), accessFlags := 18, slot := 0, constantValue := 0 }, { name := "coder", type := .byte, accessFlags := 18, slot := 1, constantValue := 0 }, { name := "hash", type := .int, accessFlags := 2, slot := 2, constantValue := 0 }, { name := "hashIsZero", type := .boolean, accessFlags := 2, slot := 3, constantValue := 0 }, { name := "serialVersionUID", type := .long, accessFlags := 26, slot := 0, constantValue := 0 }, { name := "COMPACT_STRINGS", type := .boolean, accessFlags := 24, slot := 1, constantValue := 0 }, { name := "serialPersistentFields", type := (.array (.object "java/io/ObjectStreamField")), accessFlags := 26, slot := 2, constantValue := 0 }, { name := "REPL", type := .char, accessFlags := 26, slot := 3, constantValue := 0 }, { name := "CASE_INSENSITIVE_ORDER", type := (.object "java/util/Comparator"), accessFlags := 25, slot := 4, constantValue := 0 }, { name := "LATIN1", type := .byte, accessFlags := 24, slot := 5, constantValue := 0 }, { name := "UTF16", type := .byte, accessFlags := 24, slot := 6, constantValue := 0 }]
  methods := #[k8m0, k8m1, k8m2, k8m3, k8m4, k8m5, k8m6]
  instanceTypes := #[(.array .byte), .byte, .int, .boolean]
  staticTypes := #[.long, .boolean, (.array (.object "java/io/ObjectStreamField")), .char, (.object "java/util/Comparator"), .byte, .byte]
  resolved := Array.replicate 1451 none
  statics := some 0 }

def pool9 : Array CpInfo := pool [(4, .class_ 6), (1, u "java/lang/Object"), (0, u "<init>"), (0, u "()V"), (5, .class_ 16), (1, u "java/lang/StringLatin1"), (73, u "canEncode"), (14, u "(C)Z"), (15, u "$assertionsDisabled"), (0, u "Z"), (98, .class_ 223), (1, u "java/lang/StringLatin1$LinesSpliterator"), (57, u "equals"), (0, u "([B[B)Z"), (97, u "toBytes"), (1, u "(C)[B"), (7, .class_ 391), (0, u "java/lang/StringLatin1$CharsSpliterator")] 3

def k9m0 : Method := { name := "<init>", desc := "()V", sig := { parameters := [], returnType := none }, accessFlags := 0, code := none }
def k9c1 : Code := { maxStack := 2, maxLocals := 1, code := jdk_43_method_3_code, exceptionTable := #[], attributes := #[] }
def k9m1 : Method := { name := "canEncode", desc := "(C)Z", sig := { parameters := [.char], returnType := some .boolean }, accessFlags := 9, code := some k9c1 }
def k9c2 : Code := { maxStack := 3, maxLocals := 3, code := jdk_43_method_13_code, exceptionTable := #[], attributes := #[] }
def k9m2 : Method := { name := "equals", desc := "([B[B)Z", sig := { parameters := [(.array .byte), (.array .byte)], returnType := some .boolean }, accessFlags := 9, code := some k9c2 }
def k9c3 : Code := { maxStack := 4, maxLocals := 1, code := jdk_43_method_46_code, exceptionTable := #[], attributes := #[] }
def k9m3 : Method := { name := "toBytes", desc := "(C)[B", sig := { parameters := [.char], returnType := some (.array .byte) }, accessFlags := 9, code := some k9c3 }
/-- java/lang/StringLatin1 -/
def k9 : Class := { plain "java/lang/StringLatin1" (some 0) with
  accessFlags := 48
  interfaces := #[]
  cf := some (fileOf pool9 14 #[.nestMembers #[390, 221]] #[{ accessFlags := 0, nameIndex := 7, descriptorIndex := 8, attributes := #[] }, { accessFlags := 9, nameIndex := 90, descriptorIndex := 105, attributes := #[] }, { accessFlags := 9, nameIndex := 281, descriptorIndex := 282, attributes := #[] }, { accessFlags := 9, nameIndex := 380, descriptorIndex := 382, attributes := #[] }] 48 4 #[] #[{ accessFlags := 4120, nameIndex := 121, descriptorIndex := 122, attributes := #[] }])
  fields := #[{ name := "$assertionsDisabled", type := .boolean, accessFlags := 4120, slot := 0, constantValue := 0 }]
  methods := #[k9m0, k9m1, k9m2, k9m3]
  instanceTypes := #[]
  staticTypes := #[.boolean]
  resolved := Array.replicate 395 none
  statics := none }

def pool10 : Array CpInfo := pool [(2, .class_ 4), (1, u "java/lang/Object"), (0, u "<init>"), (0, u "()V"), (35, .class_ 44), (1, u "java/util/Objects"), (0, u "requireNonNull"), (48, u "(Ljava/lang/Object;Ljava/lang/String;)Ljava/lang/Object;")] 89

def k10m0 : Method := { name := "<init>", desc := "()V", sig := { parameters := [], returnType := none }, accessFlags := 2, code := none }
def k10c1 : Code := { maxStack := 3, maxLocals := 2, code := jdk_31_method_11_code, exceptionTable := #[], attributes := #[] }
def k10m1 : Method := { name := "requireNonNull", desc := "(Ljava/lang/Object;Ljava/lang/String;)Ljava/lang/Object;", sig := { parameters := [(.object "java/lang/Object"), (.object "java/lang/String")], returnType := some (.object "java/lang/Object") }, accessFlags := 9, code := some k10c1 }
/-- java/util/Objects -/
def k10 : Class := { plain "java/util/Objects" (some 0) with
  accessFlags := 49
  interfaces := #[]
  cf := some (fileOf pool10 42 #[] #[{ accessFlags := 2, nameIndex := 5, descriptorIndex := 6, attributes := #[] }, { accessFlags := 9, nameIndex := 45, descriptorIndex := 94, attributes := #[] }] 49 2 #[] #[])
  fields := #[]
  methods := #[k10m0, k10m1]
  instanceTypes := #[]
  staticTypes := #[]
  resolved := Array.replicate 184 none
  statics := none }

def pool11 : Array CpInfo := pool [(6, .class_ 8), (1, u "java/lang/Object"), (0, u "<init>"), (0, u "()V"), (1, .class_ 14), (1, u "java/lang/StringUTF16"), (31, u "$assertionsDisabled"), (0, u "Z"), (13, u "HI_BYTE_SHIFT"), (0, u "I"), (2, u "LO_BYTE_SHIFT"), (49, .methodref 12 116), (0, .nameAndType 117 118), (0, u "compress"), (0, u "([CI[BII)I"), (3, u "([CII)[B"), (138, u "coderFromArrayLen"), (0, u "([BI)B"), (106, .class_ 371), (1, u "java/lang/StringUTF16$LinesSpliterator"), (58, u "MAX_LENGTH"), (196, .class_ 628), (0, u "java/lang/StringUTF16$CodePointsSpliterator"), (0, .class_ 630), (0, u "java/lang/StringUTF16$CharsSpliterator")] 4

def k11m0 : Method := { name := "<init>", desc := "()V", sig := { parameters := [], returnType := none }, accessFlags := 0, code := none }
def k11c1 : Code := { maxStack := 2, maxLocals := 2, code := jdk_52_method_15_code, exceptionTable := #[], attributes := #[] }
def k11m1 : Method := { name := "coderFromArrayLen", desc := "([BI)B", sig := { parameters := [(.array .byte), .int], returnType := some .byte }, accessFlags := 8, code := some k11c1 }
def k11c2 : Code := { maxStack := 5, maxLocals := 6, code := jdk_52_method_16_code, exceptionTable := #[], attributes := #[] }
def k11m2 : Method := { name := "compress", desc := "([CII)[B", sig := { parameters := [(.array .char), .int, .int], returnType := some (.array .byte) }, accessFlags := 9, code := some k11c2 }
def k11c3 : Code := { maxStack := 3, maxLocals := 7, code := jdk_52_method_21_code, exceptionTable := #[], attributes := #[] }
def k11m3 : Method := { name := "compress", desc := "([CI[BII)I", sig := { parameters := [(.array .char), .int, (.array .byte), .int, .int], returnType := some .int }, accessFlags := 9, code := some k11c3 }
/-- java/lang/StringUTF16 -/
def k11 : Class := { plain "java/lang/StringUTF16" (some 0) with
  accessFlags := 48
  interfaces := #[]
  cf := some (fileOf pool11 12 #[.nestMembers #[627, 629, 369]] #[{ accessFlags := 0, nameIndex := 9, descriptorIndex := 10, attributes := #[] }, { accessFlags := 8, nameIndex := 261, descriptorIndex := 262, attributes := #[] }, { accessFlags := 9, nameIndex := 117, descriptorIndex := 122, attributes := #[] }, { accessFlags := 9, nameIndex := 117, descriptorIndex := 118, attributes := #[] }] 48 6 #[] #[{ accessFlags := 26, nameIndex := 61, descriptorIndex := 62, attributes := #[] }, { accessFlags := 26, nameIndex := 65, descriptorIndex := 62, attributes := #[] }, { accessFlags := 24, nameIndex := 430, descriptorIndex := 62, attributes := #[] }, { accessFlags := 4120, nameIndex := 46, descriptorIndex := 47, attributes := #[] }])
  fields := #[{ name := "HI_BYTE_SHIFT", type := .int, accessFlags := 26, slot := 0, constantValue := 0 }, { name := "LO_BYTE_SHIFT", type := .int, accessFlags := 26, slot := 1, constantValue := 0 }, { name := "MAX_LENGTH", type := .int, accessFlags := 24, slot := 2, constantValue := 0 }, { name := "$assertionsDisabled", type := .boolean, accessFlags := 4120, slot := 3, constantValue := 0 }]
  methods := #[k11m0, k11m1, k11m2, k11m3]
  instanceTypes := #[]
  staticTypes := #[.int, .int, .int, .boolean]
  resolved := Array.replicate 635 none
  statics := none }

def pool12 : Array CpInfo := pool [(2, .class_ 4), (1, u "java/lang/Object"), (0, u "<init>"), (0, u "()V"), (17, .class_ 26), (1, u "jdk/internal/util/Preconditions"), (28, .class_ 56), (0, u "jdk/internal/util/Preconditions$4"), (57, .class_ 115), (0, u "jdk/internal/util/Preconditions$1"), (7, u "SIOOBE_FORMATTER"), (0, u "Ljava/util/function/BiFunction;"), (0, .class_ 126), (0, u "jdk/internal/util/Preconditions$2"), (3, u "AIOOBE_FORMATTER"), (0, .class_ 132), (0, u "jdk/internal/util/Preconditions$3"), (3, u "IOOBE_FORMATTER")] 57

def k12m0 : Method := { name := "<init>", desc := "()V", sig := { parameters := [], returnType := none }, accessFlags := 1, code := none }
/-- jdk/internal/util/Preconditions -/
def k12 : Class := { plain "jdk/internal/util/Preconditions" (some 0) with
  accessFlags := 33
  interfaces := #[]
  cf := some (fileOf pool12 24 #[.nestMembers #[55, 131, 125, 114]] #[{ accessFlags := 1, nameIndex := 5, descriptorIndex := 6, attributes := #[] }] 33 2 #[] #[{ accessFlags := 25, nameIndex := 123, descriptorIndex := 124, attributes := #[] }, { accessFlags := 25, nameIndex := 130, descriptorIndex := 124, attributes := #[] }, { accessFlags := 25, nameIndex := 136, descriptorIndex := 124, attributes := #[] }])
  fields := #[{ name := "SIOOBE_FORMATTER", type := (.object "java/util/function/BiFunction"), accessFlags := 25, slot := 0, constantValue := 0 }, { name := "AIOOBE_FORMATTER", type := (.object "java/util/function/BiFunction"), accessFlags := 25, slot := 1, constantValue := 0 }, { name := "IOOBE_FORMATTER", type := (.object "java/util/function/BiFunction"), accessFlags := 25, slot := 2, constantValue := 0 }]
  methods := #[k12m0]
  instanceTypes := #[]
  staticTypes := #[(.object "java/util/function/BiFunction"), (.object "java/util/function/BiFunction"), (.object "java/util/function/BiFunction")]
  resolved := Array.replicate 194 none
  statics := some 1 }

def pool13 : Array CpInfo := pool [(9, u "<init>"), (6, .class_ 18), (1, u "java/lang/Object"), (0, u "()V"), (1, .class_ 23), (1, u "jdk/internal/util/ArraysSupport"), (0, u "LOG2_ARRAY_LONG_INDEX_SCALE"), (0, u "I"), (2, u "U"), (0, u "Ljdk/internal/misc/Unsafe;"), (8, u "BIG_ENDIAN"), (0, u "Z"), (8, u "LOG2_BYTE_BIT_SIZE"), (4, u "LOG2_ARRAY_INT_INDEX_SCALE"), (54, u "JLA"), (0, u "Ljdk/internal/access/JavaLangAccess;"), (11, u "LOG2_ARRAY_BOOLEAN_INDEX_SCALE"), (9, u "LOG2_ARRAY_BYTE_INDEX_SCALE"), (5, u "LOG2_ARRAY_CHAR_INDEX_SCALE"), (5, u "LOG2_ARRAY_SHORT_INDEX_SCALE"), (18, u "LOG2_ARRAY_FLOAT_INDEX_SCALE"), (24, u "LOG2_ARRAY_DOUBLE_INDEX_SCALE"), (89, u "T_BOOLEAN"), (2, u "T_CHAR"), (1, u "T_FLOAT"), (1, u "T_DOUBLE"), (1, u "T_BYTE"), (1, u "T_SHORT"), (1, u "T_INT"), (1, u "T_LONG"), (1, u "SOFT_MAX_ARRAY_LENGTH")] 83

def k13m0 : Method := { name := "<init>", desc := "()V", sig := { parameters := [], returnType := none }, accessFlags := 2, code := none }
/-- jdk/internal/util/ArraysSupport -/
def k13 : Class := { plain "jdk/internal/util/ArraysSupport" (some 0) with
  accessFlags := 33
  interfaces := #[]
  cf := some (fileOf pool13 21 #[] #[{ accessFlags := 2, nameIndex := 9, descriptorIndex := 19, attributes := #[] }] 33 16 #[] #[{ accessFlags := 24, nameIndex := 28, descriptorIndex := 29, attributes := #[] }, { accessFlags := 26, nameIndex := 38, descriptorIndex := 39, attributes := #[] }, { accessFlags := 25, nameIndex := 121, descriptorIndex := 25, attributes := #[] }, { accessFlags := 25, nameIndex := 131, descriptorIndex := 25, attributes := #[] }, { accessFlags := 25, nameIndex := 137, descriptorIndex := 25, attributes := #[] }, { accessFlags := 25, nameIndex := 143, descriptorIndex := 25, attributes := #[] }, { accessFlags := 25, nameIndex := 53, descriptorIndex := 25, attributes := #[] }, { accessFlags := 25, nameIndex := 24, descriptorIndex := 25, attributes := #[] }, { accessFlags := 25, nameIndex := 162, descriptorIndex := 25, attributes := #[] }, { accessFlags := 25, nameIndex := 187, descriptorIndex := 25, attributes := #[] }, { accessFlags := 26, nameIndex := 48, descriptorIndex := 25, attributes := #[] }, { accessFlags := 25, nameIndex := 277, descriptorIndex := 25, attributes := #[] }, { accessFlags := 25, nameIndex := 280, descriptorIndex := 25, attributes := #[] }, { accessFlags := 25, nameIndex := 282, descriptorIndex := 25, attributes := #[] }, { accessFlags := 25, nameIndex := 284, descriptorIndex := 25, attributes := #[] }, { accessFlags := 25, nameIndex := 286, descriptorIndex := 25, attributes := #[] }, { accessFlags := 25, nameIndex := 288, descriptorIndex := 25, attributes := #[] }, { accessFlags := 25, nameIndex := 290, descriptorIndex := 25, attributes := #[] }, { accessFlags := 25, nameIndex := 292, descriptorIndex := 25, attributes := #[] }, { accessFlags := 26, nameIndex := 108, descriptorIndex := 109, attributes := #[] }, { accessFlags := 25, nameIndex := 294, descriptorIndex := 25, attributes := #[] }])
  fields := #[{ name := "U", type := (.object "jdk/internal/misc/Unsafe"), accessFlags := 24, slot := 0, constantValue := 0 }, { name := "BIG_ENDIAN", type := .boolean, accessFlags := 26, slot := 1, constantValue := 0 }, { name := "LOG2_ARRAY_BOOLEAN_INDEX_SCALE", type := .int, accessFlags := 25, slot := 2, constantValue := 0 }, { name := "LOG2_ARRAY_BYTE_INDEX_SCALE", type := .int, accessFlags := 25, slot := 3, constantValue := 0 }, { name := "LOG2_ARRAY_CHAR_INDEX_SCALE", type := .int, accessFlags := 25, slot := 4, constantValue := 0 }, { name := "LOG2_ARRAY_SHORT_INDEX_SCALE", type := .int, accessFlags := 25, slot := 5, constantValue := 0 }, { name := "LOG2_ARRAY_INT_INDEX_SCALE", type := .int, accessFlags := 25, slot := 6, constantValue := 0 }, { name := "LOG2_ARRAY_LONG_INDEX_SCALE", type := .int, accessFlags := 25, slot := 7, constantValue := 0 }, { name := "LOG2_ARRAY_FLOAT_INDEX_SCALE", type := .int, accessFlags := 25, slot := 8, constantValue := 0 }, { name := "LOG2_ARRAY_DOUBLE_INDEX_SCALE", type := .int, accessFlags := 25, slot := 9, constantValue := 0 }, { name := "LOG2_BYTE_BIT_SIZE", type := .int, accessFlags := 26, slot := 10, constantValue := 0 }, { name := "T_BOOLEAN", type := .int, accessFlags := 25, slot := 11, constantValue := 0 }, { name := "T_CHAR", type := .int, accessFlags := 25, slot := 12, constantValue := 0 }, { name := "T_FLOAT", type := .int, accessFlags := 25, slot := 13, constantValue := 0 }, { name := "T_DOUBLE", type := .int, accessFlags := 25, slot := 14, constantValue := 0 }, { name := "T_BYTE", type := .int, accessFlags := 25, slot := 15, constantValue := 0 }, { name := "T_SHORT", type := .int, accessFlags := 25, slot := 16, constantValue := 0 }, { name := "T_INT", type := .int, accessFlags := 25, slot := 17, constantValue := 0 }, { name := "T_LONG", type := .int, accessFlags := 25, slot := 18, constantValue := 0 }, { name := "JLA", type := (.object "jdk/internal/access/JavaLangAccess"), accessFlags := 26, slot := 19, constantValue := 0 }, { name := "SOFT_MAX_ARRAY_LENGTH", type := .int, accessFlags := 25, slot := 20, constantValue := 0 }]
  methods := #[k13m0]
  instanceTypes := #[]
  staticTypes := #[(.object "jdk/internal/misc/Unsafe"), .boolean, .int, .int, .int, .int, .int, .int, .int, .int, .int, .int, .int, .int, .int, .int, .int, .int, .int, (.object "jdk/internal/access/JavaLangAccess"), .int]
  resolved := Array.replicate 378 none
  statics := none }

def pool14 : Array CpInfo := pool [(1, u "java/lang/Cloneable"), (0, .class_ 1), (0, u "java/lang/Object"), (0, .class_ 3)] 3

/-- java/lang/Cloneable -/
def k14 : Class := { plain "java/lang/Cloneable" (some 0) with
  accessFlags := 1537
  interfaces := #[]
  cf := some (fileOf pool14 2 #[] #[] 1537 4 #[] #[])
  fields := #[]
  methods := #[]
  instanceTypes := #[]
  staticTypes := #[]
  resolved := Array.replicate 8 none
  statics := none }

/-- the primitive byte -/
def k15 : Class := { plain "byte" none with kind := .primitive 'B', accessFlags := 0x411 }
/-- [B -/
def k16 : Class := { plain "[B" (some 0) with kind := .array 15 .byte, interfaces := #[14, 3], accessFlags := 1041 }

/-- the primitive char -/
def k17 : Class := { plain "char" none with kind := .primitive 'C', accessFlags := 0x411 }
/-- [C -/
def k18 : Class := { plain "[C" (some 0) with kind := .array 17 .char, interfaces := #[14, 3], accessFlags := 1041 }

/-- the primitive int -/
def k19 : Class := { plain "int" none with kind := .primitive 'I', accessFlags := 0x411 }
/-- [I -/
def k20 : Class := { plain "[I" (some 0) with kind := .array 19 .int, interfaces := #[14, 3], accessFlags := 1041 }

def heap : Heap := #[{ cls := 8, slots := #[.long 0, .int 1, .null, .int 0, .null, .int 0, .int 0], vm := .statics 8 },
  { cls := 12, slots := #[.null, .null, .null], vm := .statics 12 }]
def classes : Array Class := #[k0, k1, k2, k3, k4, k5, k6, k7, k8, k9, k10, k11, k12, k13, k14, k15, k16, k17, k18, k19, k20]
def interned : List (Array UInt16 × Addr) := []
def slotsUsed : Nat := 10
def theMethod : MethodId := ⟨1, 3⟩
def args0 : Array Value := #[.long 3, .long 2, .long 3, .long 2, .int 1, .int 0]
def aboutOver (below : List Frame) : State where
  vm := { classes := classes, interned := interned.toArray }
  heap := heap
  slotsUsed := slotsUsed
  threads := #[{ frames := .invoking theMethod args0 :: below }]
def below0 : List Frame := [.native { method := ⟨0, 0⟩, args := #[] }]
def about1 : State := aboutOver below0
def p0 : Program := .bare "" "" ""
def e0 : Env := launch0.env 0 0 0
theorem w_frames : about1.frames = Frame.invoking theMethod args0 :: below0 := rfl
set_option maxRecDepth 65536 in
theorem w_args : argsFit about1.vm theMethod args0 = true := by decide +kernel
set_option maxRecDepth 65536 in
theorem w_heap : heapFits about1 = true := by decide +kernel
set_option maxRecDepth 65536 in
theorem w_runnable : about1.curStatus? = some .runnable := by decide +kernel
set_option maxRecDepth 65536 in
theorem w_alone : about1.alone = true := by decide +kernel
set_option maxRecDepth 65536 in
theorem w_named : about1.methodNamed? x = some theMethod := by decide +kernel
set_option maxRecDepth 65536 in
theorem w_hears : about1.hears theMethod below0 = true := by decide +kernel
set_option maxRecDepth 65536 in
theorem w_ripe : about1.ripe theMethod args0 below0 = true := by decide +kernel
theorem w_running : about1.status = .running := rfl
set_option maxRecDepth 65536 in
theorem w_room : about1.hasRoom e0.platform room_1 = true :=
  launch0.hasRoom_least _ room_1 (by decide +kernel) (by decide +kernel) (by decide +kernel) (by decide +kernel) (by decide +kernel) (by decide +kernel)
theorem allAtoms_all (ts : List Jvm.Cond) (a : Array Jvm.Value) (st : Jvm.State) : (allAtoms ts).before a st = ts.all (fun c => c.before a st) := by
  induction ts with
  | nil => rfl
  | cons c t ih =>
    show (Jvm.Cond.and c (allAtoms t)).before a st = _
    rw [Jvm.Cond.before_and, ih, List.all_cons]
def words1 : List Jvm.Cond := Jvm.Cond.code x code maxLocals ret :: tables_1
/-- a 'code' word, met by the world's own term for the bytes: nothing is compared byte by byte -/
theorem code_word {y : MethodName} {bytes : ByteArray} {mx : Nat} {rt : Option FieldType} {a : Array Value} {s : State} {m : MethodId} {meth : Method} {c : Code} (h1 : s.methodNamed? y = some m) (h2 : s.vm.method? m = some meth) (h3 : meth.code = some c) (h4 : c.code = bytes)
    (h5 : (c.maxLocals == mx && c.exceptionTable.isEmpty && decide (c.maxStack ≤ mostOperands) && decide (meth.sig.returnType = rt) && !meth.locks && decide (parseMethodDescriptor y.desc = some meth.sig)) = true) : (Jvm.Cond.code y bytes mx rt).before a s = true := by
  simp only [Bool.and_eq_true, beq_iff_eq, Bool.not_eq_true', decide_eq_true_eq] at h5
  obtain ⟨⟨⟨⟨⟨g1, g2⟩, g3⟩, g4⟩, g5⟩, g6⟩ := h5
  simp [Cond.before, Cond.holds, Cond.value, h1, h2, h3, h4, g1, g2, g3, g4, g5, g6]
def isCode : Jvm.Cond → Bool
  | .code _ _ _ _ => true
  | _ => false
theorem all_split {L : List Jvm.Cond} {P : Jvm.Cond → Bool} (h1 : L.all (fun c => isCode c || P c) = true) (h2 : ∀ c ∈ L.filter isCode, P c = true) : L.all P = true := by
  refine List.all_eq_true.mpr fun c hc => ?_
  have h := List.all_eq_true.mp h1 c hc
  rcases Bool.eq_false_or_eq_true (isCode c) with hi | hi
  · exact h2 c (List.mem_filter.mpr ⟨hc, hi⟩)
  · simpa [hi] using h
set_option maxRecDepth 65536 in
theorem w_c0 : (Jvm.Cond.code x code maxLocals ret).before args0 about1 = true := code_word (m := ⟨1, 3⟩) (meth := k1m3) (c := k1c3) (by decide +kernel) rfl rfl rfl (by decide +kernel)
set_option maxRecDepth 65536 in
theorem w_c1 : (Jvm.Cond.code ({ cls := "com/example/subjectory/subjectory/heading/ClassLinkEqualsPinLaw", name := "spec", desc := "(JJJIZ)I" } : Jvm.MethodName) method_2_code (12 : Nat) (Option.some Jvm.ClassFile.FieldType.int)).before args0 about1 = true := code_word (m := ⟨1, 1⟩) (meth := k1m1) (c := k1c1) (by decide +kernel) rfl rfl rfl (by decide +kernel)
set_option maxRecDepth 65536 in
theorem w_c2 : (Jvm.Cond.code ({ cls := "com/example/subjectory/subjectory/heading/ClassLinkEqualsPinLaw", name := "str", desc := "(I)Ljava/lang/String;" } : Jvm.MethodName) method_3_code (4 : Nat) (Option.some (Jvm.ClassFile.FieldType.object "java/lang/String"))).before args0 about1 = true := code_word (m := ⟨1, 2⟩) (meth := k1m2) (c := k1c2) (by decide +kernel) rfl rfl rfl (by decide +kernel)
set_option maxRecDepth 65536 in
theorem w_c3 : (Jvm.Cond.code ({ cls := "java/lang/String", name := "valueOf", desc := "(C)Ljava/lang/String;" } : Jvm.MethodName) jdk_42_method_139_code (1 : Nat) (Option.some (Jvm.ClassFile.FieldType.object "java/lang/String"))).before args0 about1 = true := code_word (m := ⟨8, 4⟩) (meth := k8m4) (c := k8c4) (by decide +kernel) rfl rfl rfl (by decide +kernel)
set_option maxRecDepth 65536 in
theorem w_c4 : (Jvm.Cond.code ({ cls := "java/lang/StringLatin1", name := "canEncode", desc := "(C)Z" } : Jvm.MethodName) jdk_43_method_3_code (1 : Nat) (Option.some Jvm.ClassFile.FieldType.boolean)).before args0 about1 = true := code_word (m := ⟨9, 1⟩) (meth := k9m1) (c := k9c1) (by decide +kernel) rfl rfl rfl (by decide +kernel)
set_option maxRecDepth 65536 in
theorem w_c5 : (Jvm.Cond.code ({ cls := "java/lang/StringLatin1", name := "toBytes", desc := "(C)[B" } : Jvm.MethodName) jdk_43_method_46_code (1 : Nat) (Option.some (Jvm.ClassFile.FieldType.array Jvm.ClassFile.FieldType.byte))).before args0 about1 = true := code_word (m := ⟨9, 3⟩) (meth := k9m3) (c := k9c3) (by decide +kernel) rfl rfl rfl (by decide +kernel)
set_option maxRecDepth 65536 in
theorem w_c6 : (Jvm.Cond.code ({ cls := "java/lang/String", name := "<init>", desc := "([BB)V" } : Jvm.MethodName) jdk_42_method_151_code (3 : Nat) (Option.none : Option Jvm.ClassFile.FieldType)).before args0 about1 = true := code_word (m := ⟨8, 6⟩) (meth := k8m6) (c := k8c6) (by decide +kernel) rfl rfl rfl (by decide +kernel)
set_option maxRecDepth 65536 in
theorem w_c7 : (Jvm.Cond.code ({ cls := "java/lang/Object", name := "<init>", desc := "()V" } : Jvm.MethodName) object_method_1_code (1 : Nat) (Option.none : Option Jvm.ClassFile.FieldType)).before args0 about1 = true := code_word (m := ⟨0, 0⟩) (meth := k0m0) (c := k0c0) (by decide +kernel) rfl rfl rfl (by decide +kernel)
set_option maxRecDepth 65536 in
theorem w_c8 : (Jvm.Cond.code ({ cls := "com/example/subjectory/subjectory/heading/ClassLink", name := "<init>", desc := "(Ljava/lang/String;Ljava/lang/String;Ljava/lang/String;Ljava/lang/String;Ljava/lang/String;)V" } : Jvm.MethodName) prog_4_method_1_code (6 : Nat) (Option.none : Option Jvm.ClassFile.FieldType)).before args0 about1 = true := code_word (m := ⟨2, 0⟩) (meth := k2m0) (c := k2c0) (by decide +kernel) rfl rfl rfl (by decide +kernel)
set_option maxRecDepth 65536 in
theorem w_c9 : (Jvm.Cond.code ({ cls := "java/util/Objects", name := "requireNonNull", desc := "(Ljava/lang/Object;Ljava/lang/String;)Ljava/lang/Object;" } : Jvm.MethodName) jdk_31_method_11_code (2 : Nat) (Option.some (Jvm.ClassFile.FieldType.object "java/lang/Object"))).before args0 about1 = true := code_word (m := ⟨10, 1⟩) (meth := k10m1) (c := k10c1) (by decide +kernel) rfl rfl rfl (by decide +kernel)
set_option maxRecDepth 65536 in
theorem w_c10 : (Jvm.Cond.code ({ cls := "java/lang/String", name := "isEmpty", desc := "()Z" } : Jvm.MethodName) jdk_42_method_55_code (1 : Nat) (Option.some Jvm.ClassFile.FieldType.boolean)).before args0 about1 = true := code_word (m := ⟨8, 2⟩) (meth := k8m2) (c := k8c2) (by decide +kernel) rfl rfl rfl (by decide +kernel)
set_option maxRecDepth 65536 in
theorem w_c11 : (Jvm.Cond.code ({ cls := "java/lang/String", name := "<init>", desc := "([C)V" } : Jvm.MethodName) jdk_42_method_3_code (2 : Nat) (Option.none : Option Jvm.ClassFile.FieldType)).before args0 about1 = true := code_word (m := ⟨8, 1⟩) (meth := k8m1) (c := k8c1) (by decide +kernel) rfl rfl rfl (by decide +kernel)
set_option maxRecDepth 65536 in
theorem w_c12 : (Jvm.Cond.code ({ cls := "java/lang/String", name := "<init>", desc := "([CIILjava/lang/Void;)V" } : Jvm.MethodName) jdk_42_method_149_code (6 : Nat) (Option.none : Option Jvm.ClassFile.FieldType)).before args0 about1 = true := code_word (m := ⟨8, 5⟩) (meth := k8m5) (c := k8c5) (by decide +kernel) rfl rfl rfl (by decide +kernel)
set_option maxRecDepth 65536 in
theorem w_c13 : (Jvm.Cond.code ({ cls := "java/lang/StringUTF16", name := "compress", desc := "([CII)[B" } : Jvm.MethodName) jdk_52_method_16_code (6 : Nat) (Option.some (Jvm.ClassFile.FieldType.array Jvm.ClassFile.FieldType.byte))).before args0 about1 = true := code_word (m := ⟨11, 2⟩) (meth := k11m2) (c := k11c2) (by decide +kernel) rfl rfl rfl (by decide +kernel)
set_option maxRecDepth 65536 in
theorem w_c14 : (Jvm.Cond.code ({ cls := "java/lang/StringUTF16", name := "compress", desc := "([CI[BII)I" } : Jvm.MethodName) jdk_52_method_21_code (7 : Nat) (Option.some Jvm.ClassFile.FieldType.int)).before args0 about1 = true := code_word (m := ⟨11, 3⟩) (meth := k11m3) (c := k11c3) (by decide +kernel) rfl rfl rfl (by decide +kernel)
set_option maxRecDepth 65536 in
theorem w_c15 : (Jvm.Cond.code ({ cls := "java/lang/StringUTF16", name := "coderFromArrayLen", desc := "([BI)B" } : Jvm.MethodName) jdk_52_method_15_code (2 : Nat) (Option.some Jvm.ClassFile.FieldType.byte)).before args0 about1 = true := code_word (m := ⟨11, 1⟩) (meth := k11m1) (c := k11c1) (by decide +kernel) rfl rfl rfl (by decide +kernel)
set_option maxRecDepth 65536 in
theorem w_c16 : (Jvm.Cond.code ({ cls := "com/example/subjectory/subjectory/heading/ClassLink", name := "equals", desc := "(Ljava/lang/Object;)Z" } : Jvm.MethodName) prog_4_method_8_code (3 : Nat) (Option.some Jvm.ClassFile.FieldType.boolean)).before args0 about1 = true := code_word (m := ⟨2, 1⟩) (meth := k2m1) (c := k2c1) (by decide +kernel) rfl rfl rfl (by decide +kernel)
set_option maxRecDepth 65536 in
theorem w_c17 : (Jvm.Cond.code ({ cls := "java/lang/String", name := "equals", desc := "(Ljava/lang/Object;)Z" } : Jvm.MethodName) jdk_42_method_66_code (3 : Nat) (Option.some Jvm.ClassFile.FieldType.boolean)).before args0 about1 = true := code_word (m := ⟨8, 3⟩) (meth := k8m3) (c := k8c3) (by decide +kernel) rfl rfl rfl (by decide +kernel)
set_option maxRecDepth 65536 in
theorem w_c18 : (Jvm.Cond.code ({ cls := "java/lang/StringLatin1", name := "equals", desc := "([B[B)Z" } : Jvm.MethodName) jdk_43_method_13_code (3 : Nat) (Option.some Jvm.ClassFile.FieldType.boolean)).before args0 about1 = true := code_word (m := ⟨9, 2⟩) (meth := k9m2) (c := k9c2) (by decide +kernel) rfl rfl rfl (by decide +kernel)
def codes1 : List Jvm.Cond := [Jvm.Cond.code x code maxLocals ret, Jvm.Cond.code ({ cls := "com/example/subjectory/subjectory/heading/ClassLinkEqualsPinLaw", name := "spec", desc := "(JJJIZ)I" } : Jvm.MethodName) method_2_code (12 : Nat) (Option.some Jvm.ClassFile.FieldType.int), Jvm.Cond.code ({ cls := "com/example/subjectory/subjectory/heading/ClassLinkEqualsPinLaw", name := "str", desc := "(I)Ljava/lang/String;" } : Jvm.MethodName) method_3_code (4 : Nat) (Option.some (Jvm.ClassFile.FieldType.object "java/lang/String")), Jvm.Cond.code ({ cls := "java/lang/String", name := "valueOf", desc := "(C)Ljava/lang/String;" } : Jvm.MethodName) jdk_42_method_139_code (1 : Nat) (Option.some (Jvm.ClassFile.FieldType.object "java/lang/String")), Jvm.Cond.code ({ cls := "java/lang/StringLatin1", name := "canEncode", desc := "(C)Z" } : Jvm.MethodName) jdk_43_method_3_code (1 : Nat) (Option.some Jvm.ClassFile.FieldType.boolean), Jvm.Cond.code ({ cls := "java/lang/StringLatin1", name := "toBytes", desc := "(C)[B" } : Jvm.MethodName) jdk_43_method_46_code (1 : Nat) (Option.some (Jvm.ClassFile.FieldType.array Jvm.ClassFile.FieldType.byte)), Jvm.Cond.code ({ cls := "java/lang/String", name := "<init>", desc := "([BB)V" } : Jvm.MethodName) jdk_42_method_151_code (3 : Nat) (Option.none : Option Jvm.ClassFile.FieldType), Jvm.Cond.code ({ cls := "java/lang/Object", name := "<init>", desc := "()V" } : Jvm.MethodName) object_method_1_code (1 : Nat) (Option.none : Option Jvm.ClassFile.FieldType), Jvm.Cond.code ({ cls := "com/example/subjectory/subjectory/heading/ClassLink", name := "<init>", desc := "(Ljava/lang/String;Ljava/lang/String;Ljava/lang/String;Ljava/lang/String;Ljava/lang/String;)V" } : Jvm.MethodName) prog_4_method_1_code (6 : Nat) (Option.none : Option Jvm.ClassFile.FieldType), Jvm.Cond.code ({ cls := "java/util/Objects", name := "requireNonNull", desc := "(Ljava/lang/Object;Ljava/lang/String;)Ljava/lang/Object;" } : Jvm.MethodName) jdk_31_method_11_code (2 : Nat) (Option.some (Jvm.ClassFile.FieldType.object "java/lang/Object")), Jvm.Cond.code ({ cls := "java/lang/String", name := "isEmpty", desc := "()Z" } : Jvm.MethodName) jdk_42_method_55_code (1 : Nat) (Option.some Jvm.ClassFile.FieldType.boolean), Jvm.Cond.code ({ cls := "java/lang/String", name := "<init>", desc := "([C)V" } : Jvm.MethodName) jdk_42_method_3_code (2 : Nat) (Option.none : Option Jvm.ClassFile.FieldType), Jvm.Cond.code ({ cls := "java/lang/String", name := "<init>", desc := "([CIILjava/lang/Void;)V" } : Jvm.MethodName) jdk_42_method_149_code (6 : Nat) (Option.none : Option Jvm.ClassFile.FieldType), Jvm.Cond.code ({ cls := "java/lang/StringUTF16", name := "compress", desc := "([CII)[B" } : Jvm.MethodName) jdk_52_method_16_code (6 : Nat) (Option.some (Jvm.ClassFile.FieldType.array Jvm.ClassFile.FieldType.byte)), Jvm.Cond.code ({ cls := "java/lang/StringUTF16", name := "compress", desc := "([CI[BII)I" } : Jvm.MethodName) jdk_52_method_21_code (7 : Nat) (Option.some Jvm.ClassFile.FieldType.int), Jvm.Cond.code ({ cls := "java/lang/StringUTF16", name := "coderFromArrayLen", desc := "([BI)B" } : Jvm.MethodName) jdk_52_method_15_code (2 : Nat) (Option.some Jvm.ClassFile.FieldType.byte), Jvm.Cond.code ({ cls := "com/example/subjectory/subjectory/heading/ClassLink", name := "equals", desc := "(Ljava/lang/Object;)Z" } : Jvm.MethodName) prog_4_method_8_code (3 : Nat) (Option.some Jvm.ClassFile.FieldType.boolean), Jvm.Cond.code ({ cls := "java/lang/String", name := "equals", desc := "(Ljava/lang/Object;)Z" } : Jvm.MethodName) jdk_42_method_66_code (3 : Nat) (Option.some Jvm.ClassFile.FieldType.boolean), Jvm.Cond.code ({ cls := "java/lang/StringLatin1", name := "equals", desc := "([B[B)Z" } : Jvm.MethodName) jdk_43_method_13_code (3 : Nat) (Option.some Jvm.ClassFile.FieldType.boolean)]
set_option maxRecDepth 65536 in
theorem codes_eq : words1.filter isCode = codes1 := rfl
theorem w_codes : ∀ c ∈ words1.filter isCode, c.before args0 about1 = true := by
  rw [codes_eq]
  intro c hc
  simp only [codes1, List.mem_cons, List.not_mem_nil, or_false] at hc
  rcases hc with rfl | rfl | rfl | rfl | rfl | rfl | rfl | rfl | rfl | rfl | rfl | rfl | rfl | rfl | rfl | rfl | rfl | rfl | rfl
  · exact w_c0
  · exact w_c1
  · exact w_c2
  · exact w_c3
  · exact w_c4
  · exact w_c5
  · exact w_c6
  · exact w_c7
  · exact w_c8
  · exact w_c9
  · exact w_c10
  · exact w_c11
  · exact w_c12
  · exact w_c13
  · exact w_c14
  · exact w_c15
  · exact w_c16
  · exact w_c17
  · exact w_c18
set_option maxRecDepth 65536 in
theorem w_t1 : (words1.take 24).all (fun c => isCode c || c.before args0 about1) = true := by decide +kernel
set_option maxRecDepth 65536 in
theorem w_t2 : ((words1.drop 24).take 24).all (fun c => isCode c || c.before args0 about1) = true := by decide +kernel
set_option maxRecDepth 65536 in
theorem w_t3 : (((words1.drop 24).drop 24).take 24).all (fun c => isCode c || c.before args0 about1) = true := by decide +kernel
set_option maxRecDepth 65536 in
theorem w_t4 : ((((words1.drop 24).drop 24).drop 24).take 24).all (fun c => isCode c || c.before args0 about1) = true := by decide +kernel
set_option maxRecDepth 65536 in
theorem w_t5 : ((((words1.drop 24).drop 24).drop 24).drop 24).all (fun c => isCode c || c.before args0 about1) = true := by decide +kernel
theorem w_tables : (allAtoms (Jvm.Cond.code x code maxLocals ret :: tables_1)).before args0 about1 = true := by
  rw [allAtoms_all]
  show words1.all (fun c => c.before args0 about1) = true
  refine all_split ?_ w_codes
  rw [← List.take_append_drop 24 words1, List.all_append, w_t1, ← List.take_append_drop 24 (words1.drop 24), List.all_append, w_t2, ← List.take_append_drop 24 ((words1.drop 24).drop 24), List.all_append, w_t3, ← List.take_append_drop 24 (((words1.drop 24).drop 24).drop 24), List.all_append, w_t4, w_t5]
  rfl
set_option maxRecDepth 65536 in
theorem w_rest : rest_1_c.before args0 about1 = true := by decide +kernel
set_option maxRecDepth 65536 in
theorem w_case : (Jvm.Cond.and given_1 narrow_1).before args0 about1 = true := by decide +kernel
set_option maxRecDepth 65536 in
theorem w_consts : constsHeld consts_1 about1 := Jvm.Lit.constsHeldB_iff.mp (by decide +kernel)
theorem w_applies : (headSpec (Jvm.Cond.code x code maxLocals ret :: tables_1) room_1).applies x e0.platform about1 = true :=
  (Spec.applies_iff w_frames).mpr ⟨w_running, w_runnable, w_alone, w_named, w_hears, w_ripe, w_room, w_tables⟩
theorem atStart : AtStart classFile x code maxLocals ret World_1 tables_1 room_1 Calls_1 rest_1 Pre_1 launch0 p0 e0 about1 theMethod args0 below0 :=
  ⟨lists_1, trivial, launch0.admits_env _ _ _, launch0.least_env, fairChoices_fair.cas, fairChoices_fair.clock, w_frames, w_args, w_heap, w_applies, ⟨w_consts, trivial⟩, w_rest, w_case⟩
end start1
theorem witness_1 : WitnessClaimed_1 := ⟨start1.p0, start1.e0, start1.about1, start1.theMethod, start1.args0, start1.below0, start1.atStart⟩
end Jvm.Pilot.@@N@@
