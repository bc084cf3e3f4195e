import JvmDerived
import JvmDerived.Pilot.@@N@@Statement
import JvmDerived.Pilot.@@N@@Code
set_option linter.unusedVariables false
set_option linter.unusedSimpArgs false
/- laws to paste: Road.backV (cut by pick.py; bodies as the Statement names them) -/
namespace Jvm.Pilot.@@N@@
namespace StrChars
open Jvm Sem ClassFile Op Lib Jvm.Stand Jvm.Free.XT Jvm.Free.ALB Jvm.Free.JM Jvm.Free
open Jvm.Lib.Cold (StaticIs)
/-- a char array whose places are chars -/
def Ch (a : Addr) (A : Cell) (U : State) : Prop := Arr .char a A U ∧ Typed .char A
theorem Ch.mv {a : Addr} {A : Cell} {U U' : State} (h : Ch a A U) (hal : U.vm.Alike U'.vm) (hh : U'.heap = U.heap) : Ch a A U' := ⟨h.1.mv hal hh, h.2⟩
theorem Ch.keep {a : Addr} {A : Cell} {U U' : State} (h : Ch a A U) (hal : U.vm.Alike U'.vm) (hk : U'.heap[a]? = some A) : Ch a A U' := ⟨h.1.keep hal hk, h.2⟩
/-- what place i of a char[]'s cell holds -/
def cv (A : Cell) (i : Nat) : Int32 := match A.slots[i]? with | some (.int x) => x | _ => 0
theorem Ch.get {a : Addr} {A : Cell} {U : State} (h : Ch a A U) {i : Nat} (hi : i < A.slots.size) : A.slots[i]? = some (.int (cv A i)) := by
  have e := Array.getElem?_eq_getElem hi
  have f := h.2 i _ e
  unfold cv; rw [e]
  generalize A.slots[i] = v at f
  cases v <;> simp [fits] at f ⊢
/-- the byte that i2b leaves of a char -/
def lo8 (x : Int32) : Int32 := x.toInt8.toInt32
theorem fits_lo8 (y : Int32) : fits .byte (.int (lo8 y)) = true := by
  have h1 := y.toInt8.le_toInt
  have h2 := y.toInt8.toInt_lt
  simp only [lo8, fits, Bool.and_eq_true, decide_eq_true_eq, Int32.le_iff_toInt_le, Int8.toInt_toInt32, show (-128 : Int32).toInt = -128 from by decide, show (127 : Int32).toInt = 127 from by decide]
  omega
/-- A' is A but that each place j of lo .. hi - 1 holds f j -/
def Laid (A A' : Cell) (lo hi : Nat) (f : Nat → Value) : Prop := A'.cls = A.cls ∧ A'.vm = A.vm ∧ A'.slots.size = A.slots.size ∧ ∀ i, A'.slots[i]? = if lo ≤ i ∧ i < hi then some (f i) else A.slots[i]?
theorem Laid.zero (A : Cell) (lo : Nat) (f : Nat → Value) : Laid A A lo (lo + 0) f := ⟨rfl, rfl, rfl, fun i => by rw [if_neg (by omega)]⟩
theorem Laid.step {A Ak : Cell} {lo k : Nat} {f : Nat → Value} {v : Value} (h : Laid A Ak lo k f) (hlo : lo ≤ k) (hk : k < Ak.slots.size) (hv : v = f k) : Laid A (Ak.setSlot k v) lo (k + 1) f := by
  refine ⟨h.1, h.2.1, by simpa [Cell.setSlot] using h.2.2.1, fun i => ?_⟩
  by_cases e : k = i
  · subst e; rw [Cell.slots_setSlot_self v hk, if_pos (by omega), hv]
  · rw [Cell.slots_setSlot_ne v e, h.2.2.2 i]
    by_cases q : lo ≤ i ∧ i < k
    · rw [if_pos q, if_pos (by omega)]
    · rw [if_neg q, if_neg (by omega)]
def U16 : String := "java/lang/StringUTF16"
namespace Cmp5
def yN : MethodName := ⟨"java/lang/StringUTF16", "compress", "([CI[BII)I"⟩
abbrev yB : ByteArray := jdk_52_method_21_code
theorem d0 : decode yB 0 = .ok (.iconst 0, 1) := by decide +kernel
theorem d1 : decode yB 1 = .ok (.istore 5, 2) := by decide +kernel
theorem d3 : decode yB 3 = .ok (.iload 5, 2) := by decide +kernel
theorem d5 : decode yB 5 = .ok (.iload 4, 2) := by decide +kernel
theorem d7 : decode yB 7 = .ok (.if_icmp (.ge) 37, 3) := by decide +kernel
theorem d10 : decode yB 10 = .ok (.aload_n 0, 1) := by decide +kernel
theorem d11 : decode yB 11 = .ok (.iload_n 1, 1) := by decide +kernel
theorem d12 : decode yB 12 = .ok (.caload, 1) := by decide +kernel
theorem d13 : decode yB 13 = .ok (.istore 6, 2) := by decide +kernel
theorem d15 : decode yB 15 = .ok (.iload 6, 2) := by decide +kernel
theorem d17 : decode yB 17 = .ok (.sipush 255, 3) := by decide +kernel
theorem d20 : decode yB 20 = .ok (.if_icmp (.le) 6, 3) := by decide +kernel
theorem d26 : decode yB 26 = .ok (.aload_n 2, 1) := by decide +kernel
theorem d27 : decode yB 27 = .ok (.iload_n 3, 1) := by decide +kernel
theorem d28 : decode yB 28 = .ok (.iload 6, 2) := by decide +kernel
theorem d30 : decode yB 30 = .ok (.i2b, 1) := by decide +kernel
theorem d31 : decode yB 31 = .ok (.bastore, 1) := by decide +kernel
theorem d32 : decode yB 32 = .ok (.iinc 1 1, 3) := by decide +kernel
theorem d35 : decode yB 35 = .ok (.iinc 3 1, 3) := by decide +kernel
theorem d38 : decode yB 38 = .ok (.iinc 5 1, 3) := by decide +kernel
theorem d41 : decode yB 41 = .ok (.goto (-38), 3) := by decide +kernel
theorem d44 : decode yB 44 = .ok (.iload 4, 2) := by decide +kernel
theorem d46 : decode yB 46 = .ok (.ireturn, 1) := by decide +kernel
def site : List Cond := []
def tab : Cond := tabOf yN yB 7 (some .int) site
def P (b : Addr) (A : Cell) (d : Addr) (B : Cell) (o q len : Nat) (args : Array Value) (s : State) : Prop := args = #[.ref b, .int (Int32.ofNat o), .ref d, .int (Int32.ofNat q), .int (Int32.ofNat len)] ∧ Ch b A s ∧ Arr .byte d B s ∧ b ≠ d ∧ o + len ≤ A.slots.size ∧ q + len ≤ B.slots.size ∧ ∀ i, i < len → ¬ 255 < cv A (o + i)
def E (b : Addr) (A : Cell) (d : Addr) (B : Cell) (o q len : Nat) (r : Option Value) (s u : State) : Prop := r = some (.int (Int32.ofNat len)) ∧ ∃ B', Put d B' s u ∧ Laid B B' q (q + len) (fun j => Value.int (lo8 (cv A (o + (j - q)))))
/-- no char of the range above 255: len; the places written hold each char's low byte -/
theorem law (l : Launch) (b : Addr) (A : Cell) (d : Addr) (B : Cell) (o q len : Nat) : Law l yN 5 5 0 0 yB 7 (some .int) site (P b A d B o q len) (E b A d B o q len) (copyLocs d q len) 0 0 := by
  refine Law.of_walk (plainFor_of_name (by decide +kernel)) (by decide +kernel) (by decide +kernel) (by decide) (fun _ _ h => by rw [h.1]; rfl) (fun _ U U' hal hh h => ⟨h.1, h.2.1.mv hal hh, h.2.2.1.mv hal hh, h.2.2.2⟩) (fun r U U' V V' h1 hal h2 h => ⟨h.1, h.2.elim fun B' q => ⟨B', q.1.mv h1 h2, q.2⟩⟩) ?_
  intro p e s m args below meth c s₁ X0 hexec hbytes hml hret hlk hnm hown hh0 W hP
  obtain ⟨rfl, hA, hB, hne, l1, l2, hp⟩ := hP
  have c1 : Steps p.tables e below (s₁.setTop (entryFrame m #[.ref b, .int (Int32.ofNat o), .ref d, .int (Int32.ofNat q), .int (Int32.ofNat len)] 7)) (s₁.setTop (mkF m 0 #[.val (.ref b), .val (.int (Int32.ofNat o)), .val (.ref d), .val (.int (Int32.ofNat q)), .val (.int (Int32.ofNat len)), .unset, .unset] [])) := entry rfl
  have hA0 := hA.1.mv X0.warmed.alike hh0
  have hB0 := hB.mv X0.warmed.alike hh0
  have a31 := hA.1.2.2.2
  have c2 : Steps p.tables e below (s₁.setTop (entryFrame m #[.ref b, .int (Int32.ofNat o), .ref d, .int (Int32.ofNat q), .int (Int32.ofNat len)] 7)) (s₁.setTop (mkF m 3 #[.val (.ref b), .val (.int (Int32.ofNat o)), .val (.ref d), .val (.int (Int32.ofNat q)), .val (.int (Int32.ofNat len)), .val (.int 0), .unset] [])) := c1.trans (by
    refine iconstV X0.here hexec rfl 0 (hb hbytes d0) (by decide) ?_
    refine XS.istore X0.here hexec rfl (hb hbytes d1) rfl rfl ?_
    exact Steps.refl _)
  have loop : ∀ (r i : Nat), i + r = len → ∀ (z : Slot), (z = .unset ∨ ∃ w, z = .val w ∧ w.category = 1) → ∀ (Tl : State) (Bk : Cell), Stand p l e { frames := 0, locals := 0, cells := 0, slots := 0 } s m #[.ref b, .int (Int32.ofNat o), .ref d, .int (Int32.ofNat q), .int (Int32.ofNat len)] below meth c Tl ([] ++ copyLocs d q i) 0 0 → Put d Bk s₁ Tl → Laid B Bk q (q + i) (fun j => Value.int (lo8 (cv A (o + (j - q))))) →
      Steps p.tables e below (s₁.setTop (entryFrame m #[.ref b, .int (Int32.ofNat o), .ref d, .int (Int32.ofNat q), .int (Int32.ofNat len)] 7)) (Tl.setTop (mkF m 3 #[.val (.ref b), .val (.int (Int32.ofNat (o + i))), .val (.ref d), .val (.int (Int32.ofNat (q + i))), .val (.int (Int32.ofNat len)), .val (.int (Int32.ofNat i)), z] [])) → ∃ (T' : State) (B' : Cell) (z' : Slot), Stand p l e { frames := 0, locals := 0, cells := 0, slots := 0 } s m #[.ref b, .int (Int32.ofNat o), .ref d, .int (Int32.ofNat q), .int (Int32.ofNat len)] below meth c T' ([] ++ copyLocs d q len) 0 0 ∧ Put d B' s₁ T' ∧ Laid B B' q (q + len) (fun j => Value.int (lo8 (cv A (o + (j - q))))) ∧
      Steps p.tables e below (s₁.setTop (entryFrame m #[.ref b, .int (Int32.ofNat o), .ref d, .int (Int32.ofNat q), .int (Int32.ofNat len)] 7)) (T'.setTop (mkF m 3 #[.val (.ref b), .val (.int (Int32.ofNat (o + len))), .val (.ref d), .val (.int (Int32.ofNat (q + len))), .val (.int (Int32.ofNat len)), .val (.int (Int32.ofNat len)), z'] [])) := by
    intro r
    induction r with
    | zero =>
      intro i hi z hz Tl Bk Xl pl fl cl
      have hil : i = len := by omega
      rw [hil] at Xl fl cl
      exact ⟨Tl, Bk, z, Xl, pl, fl, cl⟩
    | succ r ih =>
      intro i hi z hz Tl Bk Xl pl fl cl
      have all := X0.warmed.alike.symm.trans Xl.warmed.alike
      have hAl := hA0.keep all (pl.other hne hA0.1)
      have hBk := hB0.like all pl.1 fl.1 fl.2.1 fl.2.2.1
      have hlt : q + i < Bk.slots.size := by rw [fl.2.2.1]; omega
      have c3 : Steps p.tables e below (s₁.setTop (entryFrame m #[.ref b, .int (Int32.ofNat o), .ref d, .int (Int32.ofNat q), .int (Int32.ofNat len)] 7)) (Tl.setTop (mkF m 12 #[.val (.ref b), .val (.int (Int32.ofNat (o + i))), .val (.ref d), .val (.int (Int32.ofNat (q + i))), .val (.int (Int32.ofNat len)), .val (.int (Int32.ofNat i)), z] [.int (Int32.ofNat (o + i)), .ref b])) := cl.trans (by
        refine XS.iload Xl.here hexec rfl (hb hbytes d3) rfl ?_
        refine XS.iload Xl.here hexec rfl (hb hbytes d5) rfl ?_
        refine XS.icmpNo Xl.here hexec rfl (hb hbytes d7) rfl (ii_ge_f (lt32 (by omega) (by omega))) ?_
        refine XS.aloadN Xl.here hexec rfl (hb hbytes d10) rfl rfl ?_
        refine XS.iloadN Xl.here hexec rfl (hb hbytes d11) rfl ?_
        exact Steps.refl _)
      have c4 : Steps p.tables e below (s₁.setTop (entryFrame m #[.ref b, .int (Int32.ofNat o), .ref d, .int (Int32.ofNat q), .int (Int32.ofNat len)] 7)) (Tl.setTop (mkF m 13 #[.val (.ref b), .val (.int (Int32.ofNat (o + i))), .val (.ref d), .val (.int (Int32.ofNat (q + i))), .val (.int (Int32.ofNat len)), .val (.int (Int32.ofNat i)), z] [.int (cv A (o + i))])) := c3.trans (by
        refine Xl.aget hexec hAl rfl (hA.get (i := o + i) (by omega)) rfl rfl (hb hbytes d12) ?_
        exact Steps.refl _)
      have c5 : Steps p.tables e below (s₁.setTop (entryFrame m #[.ref b, .int (Int32.ofNat o), .ref d, .int (Int32.ofNat q), .int (Int32.ofNat len)] 7)) (Tl.setTop (mkF m 15 #[.val (.ref b), .val (.int (Int32.ofNat (o + i))), .val (.ref d), .val (.int (Int32.ofNat (q + i))), .val (.int (Int32.ofNat len)), .val (.int (Int32.ofNat i)), .val (.int (cv A (o + i)))] [])) := c4.trans (by
        refine XS.istoreS Xl.here hexec rfl (hb hbytes d13) rfl rfl hz ?_
        exact Steps.refl _)
      have c6 : Steps p.tables e below (s₁.setTop (entryFrame m #[.ref b, .int (Int32.ofNat o), .ref d, .int (Int32.ofNat q), .int (Int32.ofNat len)] 7)) (Tl.setTop (mkF m 31 #[.val (.ref b), .val (.int (Int32.ofNat (o + i))), .val (.ref d), .val (.int (Int32.ofNat (q + i))), .val (.int (Int32.ofNat len)), .val (.int (Int32.ofNat i)), .val (.int (cv A (o + i)))] [.int (lo8 (cv A (o + i))), .int (Int32.ofNat (q + i)), .ref d])) := c5.trans (by
        refine XS.iload Xl.here hexec rfl (hb hbytes d15) rfl ?_
        refine sipushV Xl.here hexec rfl 255 (hb hbytes d17) (by decide) ?_
        refine XS.icmpYes Xl.here hexec rfl (pc0 := 20) rfl (hb hbytes d20) rfl (ii_le_t (hp i (by omega))) (by decide) rfl ?_
        refine XS.aloadN Xl.here hexec rfl (hb hbytes d26) rfl rfl ?_
        refine XS.iloadN Xl.here hexec rfl (hb hbytes d27) rfl ?_
        refine XS.iload Xl.here hexec rfl (hb hbytes d28) rfl ?_
        refine i2b Xl.here hexec rfl (hb hbytes d30) rfl ?_
        exact Steps.refl _)
      obtain ⟨T7, X7, p7, st7⟩ := Xl.aput hexec hBk rfl hlt rfl (fits_lo8 (cv A (o + i))) (g := (mkF m 31 #[.val (.ref b), .val (.int (Int32.ofNat (o + i))), .val (.ref d), .val (.int (Int32.ofNat (q + i))), .val (.int (Int32.ofNat len)), .val (.int (Int32.ofNat i)), .val (.int (cv A (o + i)))] [.int (lo8 (cv A (o + i))), .int (Int32.ofNat (q + i)), .ref d])) rfl (rest := []) rfl (hb hbytes d31)
      have c8 : Steps p.tables e below (s₁.setTop (entryFrame m #[.ref b, .int (Int32.ofNat o), .ref d, .int (Int32.ofNat q), .int (Int32.ofNat len)] 7)) (T7.setTop (mkF m 32 #[.val (.ref b), .val (.int (Int32.ofNat (o + i))), .val (.ref d), .val (.int (Int32.ofNat (q + i))), .val (.int (Int32.ofNat len)), .val (.int (Int32.ofNat i)), .val (.int (cv A (o + i)))] [])) := c6.trans (st7 _ (Steps.refl _))
      have c9 : Steps p.tables e below (s₁.setTop (entryFrame m #[.ref b, .int (Int32.ofNat o), .ref d, .int (Int32.ofNat q), .int (Int32.ofNat len)] 7)) (T7.setTop (mkF m 3 #[.val (.ref b), .val (.int (Int32.ofNat (o + i) + 1)), .val (.ref d), .val (.int (Int32.ofNat (q + i) + 1)), .val (.int (Int32.ofNat len)), .val (.int (Int32.ofNat i + 1)), .val (.int (cv A (o + i)))] [])) := c8.trans (by
        refine iincV X7.here hexec rfl 1 (hb hbytes d32) (by decide) rfl rfl ?_
        refine iincV X7.here hexec rfl 1 (hb hbytes d35) (by decide) rfl rfl ?_
        refine iincV X7.here hexec rfl 1 (hb hbytes d38) (by decide) rfl rfl ?_
        refine XS.goto X7.here hexec rfl (pc0 := 41) rfl (hb hbytes d41) (by decide) rfl ?_
        exact Steps.refl _)
      have c10 : Steps p.tables e below (s₁.setTop (entryFrame m #[.ref b, .int (Int32.ofNat o), .ref d, .int (Int32.ofNat q), .int (Int32.ofNat len)] 7)) (T7.setTop (mkF m 3 #[.val (.ref b), .val (.int (Int32.ofNat (o + (i + 1)))), .val (.ref d), .val (.int (Int32.ofNat (q + (i + 1)))), .val (.int (Int32.ofNat len)), .val (.int (Int32.ofNat (i + 1))), .val (.int (cv A (o + i)))] [])) := by
        have := c9
        rw [succ32, succ32, succ32] at this
        exact this
      exact ih (i + 1) (by omega) _ (Or.inr ⟨_, rfl, rfl⟩) T7 _ (by rw [copyLocs_step, ← List.append_assoc]; exact X7) (pl.trans p7) (fl.step (by omega) hlt (by simp)) c10
  obtain ⟨T9, B9, z9, X9, p9, f9, g9⟩ := loop len 0 (by omega) .unset (Or.inl rfl) s₁ B (by simpa [copyLocs] using X0) ⟨hB0.1, fun _ _ => rfl, rfl⟩ (Laid.zero _ _ _) c2
  have c11 : Steps p.tables e below (s₁.setTop (entryFrame m #[.ref b, .int (Int32.ofNat o), .ref d, .int (Int32.ofNat q), .int (Int32.ofNat len)] 7)) (T9.setTop (mkF m 46 #[.val (.ref b), .val (.int (Int32.ofNat (o + len))), .val (.ref d), .val (.int (Int32.ofNat (q + len))), .val (.int (Int32.ofNat len)), .val (.int (Int32.ofNat len)), z9] [.int (Int32.ofNat len)])) := g9.trans (by
    refine XS.iload X9.here hexec rfl (hb hbytes d3) rfl ?_
    refine XS.iload X9.here hexec rfl (hb hbytes d5) rfl ?_
    refine XS.icmpYes X9.here hexec rfl (pc0 := 7) rfl (hb hbytes d7) rfl (ii_ge_t (nlt32 (by omega) (Nat.le_refl _))) (by decide) rfl ?_
    refine XS.iload X9.here hexec rfl (hb hbytes d44) rfl ?_
    exact Steps.refl _)
  exact ⟨T9, some (.int (Int32.ofNat len)), _, _, _, X9, by simp, rfl, rfl, (fun h => by cases h), ⟨rfl, B9, p9.from hh0, f9⟩, fun fs hl => c11.trans (X9.ireturnOut hexec hret rfl (Or.inl rfl) (hb hbytes d46) hl)⟩
end Cmp5
namespace Cmp3
def yN : MethodName := ⟨"java/lang/StringUTF16", "compress", "([CII)[B"⟩
abbrev yB : ByteArray := jdk_52_method_16_code
theorem d0 : decode yB 0 = .ok (.iload_n 2, 1) := by decide +kernel
theorem d1 : decode yB 1 = .ok (.newarray .byte, 2) := by decide +kernel
theorem d3 : decode yB 3 = .ok (.astore_n 3, 1) := by decide +kernel
theorem d4 : decode yB 4 = .ok (.aload_n 0, 1) := by decide +kernel
theorem d5 : decode yB 5 = .ok (.iload_n 1, 1) := by decide +kernel
theorem d6 : decode yB 6 = .ok (.aload_n 3, 1) := by decide +kernel
theorem d7 : decode yB 7 = .ok (.iconst 0, 1) := by decide +kernel
theorem d8 : decode yB 8 = .ok (.iload_n 2, 1) := by decide +kernel
theorem d9 : decode yB 9 = .ok (.invokestatic 115, 3) := by decide +kernel
theorem d12 : decode yB 12 = .ok (.istore 4, 2) := by decide +kernel
theorem d14 : decode yB 14 = .ok (.iload 4, 2) := by decide +kernel
theorem d16 : decode yB 16 = .ok (.iload_n 2, 1) := by decide +kernel
theorem d17 : decode yB 17 = .ok (.if_icmp (.eq) 40, 3) := by decide +kernel
theorem d57 : decode yB 57 = .ok (.aload_n 3, 1) := by decide +kernel
theorem d58 : decode yB 58 = .ok (.areturn, 1) := by decide +kernel
def site : List Cond := [.arrayClass .byte, Cmp5.tab] ++ staticW U16 115 Cmp5.yN
def tab : Cond := tabOf yN yB 6 (some (.array .byte)) site
def P (b : Addr) (A : Cell) (o len : Nat) (args : Array Value) (s : State) : Prop := args = #[.ref b, .int (Int32.ofNat o), .int (Int32.ofNat len)] ∧ Ch b A s ∧ o + len ≤ A.slots.size ∧ len ≤ 536870912 ∧ ∀ i, i < len → ¬ 255 < cv A (o + i)
def E (b : Addr) (A : Cell) (o len : Nat) (r : Option Value) (s u : State) : Prop := NewArr .byte "[B" len (fun j => .int (lo8 (cv A (o + j)))) r s u ∧ u.heap.size = s.heap.size + 1
/-- no char of the range above 255: a new byte[] of their low bytes -/
theorem law (l : Launch) (b : Addr) (A : Cell) (o len : Nat) : Law l yN 3 3 1 18 yB 6 (some (.array .byte)) site (P b A o len) (E b A o len) [] 1 len := by
  refine Law.of_walk (plainFor_of_name (by decide +kernel)) (by decide +kernel) (by decide +kernel) (by decide) (fun _ _ h => by rw [h.1]; rfl) (fun _ U U' hal hh h => ⟨h.1, h.2.1.mv hal hh, h.2.2⟩) (fun r U U' V V' h1 hal h2 h => ⟨NewArr.mv r U U' V V' h1 hal h2 h.1, by rw [h1, h2]; exact h.2⟩) ?_
  intro p e s m args below meth c s₁ X0 hexec hbytes hml hret hlk hnm hown hh0 W hP
  obtain ⟨rfl, hA, l1, l2, hp⟩ := hP
  have a31 := hA.1.2.2.2
  have c1 : Steps p.tables e below (s₁.setTop (entryFrame m #[.ref b, .int (Int32.ofNat o), .int (Int32.ofNat len)] 6)) (s₁.setTop (mkF m 0 #[.val (.ref b), .val (.int (Int32.ofNat o)), .val (.int (Int32.ofNat len)), .unset, .unset, .unset] [])) := entry rfl
  have c2 : Steps p.tables e below (s₁.setTop (entryFrame m #[.ref b, .int (Int32.ofNat o), .int (Int32.ofNat len)] 6)) (s₁.setTop (mkF m 1 #[.val (.ref b), .val (.int (Int32.ofNat o)), .val (.int (Int32.ofNat len)), .unset, .unset, .unset] [.int (Int32.ofNat len)])) := c1.trans (by
    refine XS.iloadN X0.here hexec rfl (hb hbytes d0) rfl ?_
    exact Steps.refl _)
  obtain ⟨T3, B3, X3, ba3, bs3, bv3, bh3, bf3, st3⟩ := X0.anew hexec (atype := .byte) (wk W (.arrayClass .byte)) rfl (by show len * 1 ≤ _; omega) (by omega) (g := (mkF m 1 #[.val (.ref b), .val (.int (Int32.ofNat o)), .val (.int (Int32.ofNat len)), .unset, .unset, .unset] [.int (Int32.ofNat len)])) rfl (hb hbytes d1) (rest := []) rfl (Nat.le_refl _) (by show 0 + len ≤ len; omega)
  rw [hh0] at ba3 st3
  have kp3 : XT.Kept s T3 := (XT.Kept.of_eq hh0).push bh3
  have hA3 := hA.keep X3.warmed.alike (kp3 _ _ hA.1.1)
  have hne : b ≠ s.heap.size := hA.1.ne
  have c4 : Steps p.tables e below (s₁.setTop (entryFrame m #[.ref b, .int (Int32.ofNat o), .int (Int32.ofNat len)] 6)) (T3.setTop (mkF m 3 #[.val (.ref b), .val (.int (Int32.ofNat o)), .val (.int (Int32.ofNat len)), .unset, .unset, .unset] [.ref s.heap.size])) := c2.trans (st3 _ (Steps.refl _))
  have c5 : Steps p.tables e below (s₁.setTop (entryFrame m #[.ref b, .int (Int32.ofNat o), .int (Int32.ofNat len)] 6)) (T3.setTop (mkF m 9 #[.val (.ref b), .val (.int (Int32.ofNat o)), .val (.int (Int32.ofNat len)), .val (.ref s.heap.size), .unset, .unset] [.int (Int32.ofNat len), .int 0, .ref s.heap.size, .int (Int32.ofNat o), .ref b])) := c4.trans (by
    refine XS.astoreN X3.here hexec rfl (hb hbytes d3) rfl rfl rfl ?_
    refine XS.aloadN X3.here hexec rfl (hb hbytes d4) rfl rfl ?_
    refine XS.iloadN X3.here hexec rfl (hb hbytes d5) rfl ?_
    refine XS.aloadN X3.here hexec rfl (hb hbytes d6) rfl rfl ?_
    refine iconstV X3.here hexec rfl 0 (hb hbytes d7) (by decide) ?_
    refine XS.iloadN X3.here hexec rfl (hb hbytes d8) rfl ?_
    exact Steps.refl _)
  obtain ⟨v6, T6, X6, E6, g6⟩ := X3.callS hexec (Cmp5.law l b A s.heap.size B3 o 0 len) hown (wks W (staticW U16 115 Cmp5.yN)) (wk W Cmp5.tab) (W := 0) (Nat.le_of_ble_eq_true rfl) (Nat.le_of_ble_eq_true rfl) (Nat.le_refl _) (by show 0 + len + 0 ≤ len; omega) (g := (mkF m 9 #[.val (.ref b), .val (.int (Int32.ofNat o)), .val (.int (Int32.ofNat len)), .val (.ref s.heap.size), .unset, .unset] [.int (Int32.ofNat len), .int (Int32.ofNat 0), .ref s.heap.size, .int (Int32.ofNat o), .ref b])) rfl (by rw [hml]; rfl) c5 (argsL := [.ref b, .int (Int32.ofNat o), .ref s.heap.size, .int (Int32.ofNat 0), .int (Int32.ofNat len)]) (rest := []) rfl rfl (by show 2 * 0 + 0 ≤ _; decide) (hb hbytes d9) (⟨rfl, hA3, ba3, hne, l1, by rw [bs3]; simp, hp⟩)
  obtain ⟨rfl, B6, p6, f6⟩ := E6
  have c7 : Steps p.tables e below (s₁.setTop (entryFrame m #[.ref b, .int (Int32.ofNat o), .int (Int32.ofNat len)] 6)) (T6.setTop (mkF m 12 #[.val (.ref b), .val (.int (Int32.ofNat o)), .val (.int (Int32.ofNat len)), .val (.ref s.heap.size), .unset, .unset] [.int (Int32.ofNat len)])) := g6
  have c8 : Steps p.tables e below (s₁.setTop (entryFrame m #[.ref b, .int (Int32.ofNat o), .int (Int32.ofNat len)] 6)) (T6.setTop (mkF m 58 #[.val (.ref b), .val (.int (Int32.ofNat o)), .val (.int (Int32.ofNat len)), .val (.ref s.heap.size), .val (.int (Int32.ofNat len)), .unset] [.ref s.heap.size])) := c7.trans (by
    refine XS.istore X6.here hexec rfl (hb hbytes d12) rfl rfl ?_
    refine XS.iload X6.here hexec rfl (hb hbytes d14) rfl ?_
    refine XS.iloadN X6.here hexec rfl (hb hbytes d16) rfl ?_
    refine XS.icmpYes X6.here hexec rfl (pc0 := 17) rfl (hb hbytes d17) rfl (ii_eq_t rfl) (by decide) rfl ?_
    refine XS.aloadN X6.here hexec rfl (hb hbytes d57) rfl rfl ?_
    exact Steps.refl _)
  have X8 := X6.wide (L' := []) (cells' := 1) (slots' := len) (fun x hx hlt => by
    simp only [List.nil_append, copyLocs, List.mem_map, List.mem_range] at hx
    obtain ⟨i, -, rfl⟩ := hx
    exact absurd hlt (Nat.lt_irrefl _)) (Nat.le_refl _) (by omega)
  exact ⟨T6, some (.ref s.heap.size), _, _, _, X8, rfl, rfl, rfl, (fun h => by cases h), ⟨⟨rfl, B6, ba3.like (X3.warmed.alike.symm.trans X6.warmed.alike) p6.1 f6.1 f6.2.1 f6.2.2.1, f6.2.1.trans bv3, by rw [X6.warmed.alike.findClass, f6.1]; exact bf3, by rw [f6.2.2.1, bs3]; simp, fun j hj => by rw [f6.2.2.2 j, if_pos (by omega)]; rfl, kp3.put p6 (Nat.le_refl _)⟩, by rw [p6.2.2, bh3, hh0]; simp⟩, fun fs hl => c8.trans (X8.areturnOut hexec rfl hret rfl (hb hbytes d58) hl)⟩
end Cmp3
namespace CodL
def yN : MethodName := ⟨"java/lang/StringUTF16", "coderFromArrayLen", "([BI)B"⟩
abbrev yB : ByteArray := jdk_52_method_15_code
theorem d0 : decode yB 0 = .ok (.iload_n 1, 1) := by decide +kernel
theorem d1 : decode yB 1 = .ok (.aload_n 0, 1) := by decide +kernel
theorem d2 : decode yB 2 = .ok (.arraylength, 1) := by decide +kernel
theorem d3 : decode yB 3 = .ok (.isub, 1) := by decide +kernel
theorem d4 : decode yB 4 = .ok (.bipush 31, 2) := by decide +kernel
theorem d6 : decode yB 6 = .ok (.iushr, 1) := by decide +kernel
theorem d7 : decode yB 7 = .ok (.i2b, 1) := by decide +kernel
theorem d8 : decode yB 8 = .ok (.ireturn, 1) := by decide +kernel
def site : List Cond := []
def tab : Cond := tabOf yN yB 2 (some .byte) site
def P (d : Addr) (B : Cell) (args : Array Value) (s : State) : Prop := args = #[.ref d, .int (Int32.ofNat B.slots.size)] ∧ Arr .byte d B s
def E (r : Option Value) (s u : State) : Prop := XT.PureE (some (.int 0)) r s u
/-- an array as long as the number of chars: LATIN1 -/
theorem law (l : Launch) (d : Addr) (B : Cell) : Law l yN 2 2 0 0 yB 2 (some .byte) site (P d B) E [] 0 0 := by
  refine Law.of_walk (plainFor_of_name (by decide +kernel)) (by decide +kernel) (by decide +kernel) (by decide) (fun _ _ h => by rw [h.1]; rfl) (fun _ U U' hal hh h => ⟨h.1, h.2.mv hal hh⟩) (fun r U U' V V' h1 hal h2 h => XT.PureE.mv r U U' V V' h1 hal h2 h) ?_
  intro p e s m args below meth c s₁ X0 hexec hbytes hml hret hlk hnm hown hh0 W hP
  obtain ⟨rfl, hB⟩ := hP
  have hB0 := hB.mv X0.warmed.alike hh0
  have c1 : Steps p.tables e below (s₁.setTop (entryFrame m #[.ref d, .int (Int32.ofNat B.slots.size)] 2)) (s₁.setTop (mkF m 0 #[.val (.ref d), .val (.int (Int32.ofNat B.slots.size))] [])) := entry rfl
  have c2 : Steps p.tables e below (s₁.setTop (entryFrame m #[.ref d, .int (Int32.ofNat B.slots.size)] 2)) (s₁.setTop (mkF m 2 #[.val (.ref d), .val (.int (Int32.ofNat B.slots.size))] [.ref d, .int (Int32.ofNat B.slots.size)])) := c1.trans (by
    refine XS.iloadN X0.here hexec rfl (hb hbytes d0) rfl ?_
    refine XS.aloadN X0.here hexec rfl (hb hbytes d1) rfl rfl ?_
    exact Steps.refl _)
  have c3 : Steps p.tables e below (s₁.setTop (entryFrame m #[.ref d, .int (Int32.ofNat B.slots.size)] 2)) (s₁.setTop (mkF m 8 #[.val (.ref d), .val (.int (Int32.ofNat B.slots.size))] [.int (lo8 (ushr (Int32.ofNat B.slots.size - Int32.ofNat B.slots.size) 31))])) := c2.trans (by
    refine X0.alen hexec hB0 rfl rfl (hb hbytes d2) ?_
    refine XS.isub X0.here hexec rfl (hb hbytes d3) rfl ?_
    refine bipushV X0.here hexec rfl 31 (hb hbytes d4) (by decide) ?_
    refine iushr X0.here hexec rfl (hb hbytes d6) rfl ?_
    refine i2b X0.here hexec rfl (hb hbytes d7) rfl ?_
    exact Steps.refl _)
  have e0 : lo8 (ushr (Int32.ofNat B.slots.size - Int32.ofNat B.slots.size) 31) = 0 := by rw [Int32.sub_self]; decide
  rw [e0] at c3
  exact ⟨s₁, some (.int 0), _, _, _, X0, rfl, rfl, rfl, (fun h => by cases h), ⟨rfl, hh0⟩, fun fs hl => c3.trans (X0.ireturnOut hexec hret rfl (Or.inr (Or.inr (Or.inl rfl))) (hb hbytes d8) hl)⟩
end CodL
/-- the String at a is Latin-1 over a new byte[] (the heap's one new cell): the low bytes of the len chars of A from o on; every cell but a is kept -/
def Got (a : Addr) (D : Cell) (fV fC : Field) (A : Cell) (o len : Nat) (r : Option Value) (s u : State) : Prop := r = none ∧ ∃ D' V : Cell, Blank "java/lang/String" a D' u ∧ Same D D' [fV.slot, fC.slot] ∧ D'.slots[fV.slot]? = some (.ref s.heap.size) ∧ D'.slots[fC.slot]? = some (.int 0) ∧ Arr .byte s.heap.size V u ∧ V.vm = .none ∧ u.vm.findClass "[B" = some V.cls ∧ V.slots.size = len ∧ (∀ j, j < len → V.slots[j]? = some (.int (lo8 (cv A (o + j))))) ∧ (∀ (y : Addr) (c : Cell), y ≠ a → s.heap[y]? = some c → u.heap[y]? = some c) ∧ u.heap.size = s.heap.size + 1
theorem Got.mv {a : Addr} {D A : Cell} {fV fC : Field} {o len : Nat} : ∀ r (U U' V V' : State), U'.heap = U.heap → V.vm.Alike V'.vm → V'.heap = V.heap → Got a D fV fC A o len r U V → Got a D fV fC A o len r U' V' :=
  fun r U U' V V' h1 hal h2 ⟨e0, D', X, a1, a2, a3, a4, a5, a6, a7, a8, a9, a10, a11⟩ => ⟨e0, D', X, a1.mv hal h2, a2, by rw [h1]; exact a3, a4, by rw [h1]; exact a5.mv hal h2, a6, by rw [hal.findClass]; exact a7, a8, a9, by rw [h1, h2]; exact a10, by rw [h1, h2]; exact a11⟩
namespace New4
def yN : MethodName := ⟨"java/lang/String", "<init>", "([CIILjava/lang/Void;)V"⟩
abbrev yB : ByteArray := jdk_42_method_149_code
theorem d0 : decode yB 0 = .ok (.aload_n 0, 1) := by decide +kernel
theorem d1 : decode yB 1 = .ok (.invokespecial 1, 3) := by decide +kernel
theorem d4 : decode yB 4 = .ok (.iload_n 3, 1) := by decide +kernel
theorem d5 : decode yB 5 = .ok (.ifCond (.ne) 22, 3) := by decide +kernel
theorem d27 : decode yB 27 = .ok (.getstatic 38, 3) := by decide +kernel
theorem d30 : decode yB 30 = .ok (.ifCond (.eq) 28, 3) := by decide +kernel
theorem d33 : decode yB 33 = .ok (.aload_n 1, 1) := by decide +kernel
theorem d34 : decode yB 34 = .ok (.iload_n 2, 1) := by decide +kernel
theorem d35 : decode yB 35 = .ok (.iload_n 3, 1) := by decide +kernel
theorem d36 : decode yB 36 = .ok (.invokestatic 177, 3) := by decide +kernel
theorem d39 : decode yB 39 = .ok (.astore 5, 2) := by decide +kernel
theorem d41 : decode yB 41 = .ok (.aload_n 0, 1) := by decide +kernel
theorem d42 : decode yB 42 = .ok (.aload 5, 2) := by decide +kernel
theorem d44 : decode yB 44 = .ok (.iload_n 3, 1) := by decide +kernel
theorem d45 : decode yB 45 = .ok (.invokestatic 47, 3) := by decide +kernel
theorem d48 : decode yB 48 = .ok (.putfield 15, 3) := by decide +kernel
theorem d51 : decode yB 51 = .ok (.aload_n 0, 1) := by decide +kernel
theorem d52 : decode yB 52 = .ok (.aload 5, 2) := by decide +kernel
theorem d54 : decode yB 54 = .ok (.putfield 9, 3) := by decide +kernel
theorem d57 : decode yB 57 = .ok (.return_, 1) := by decide +kernel
def site : List Cond := [.fieldLink "java/lang/String" 38 "java/lang/String" "COMPACT_STRINGS" "Z", Cmp3.tab, CodL.tab, .laysFinal "java/lang/String" "java/lang/String" "value" "[B", .fieldLink "java/lang/String" 9 "java/lang/String" "value" "[B", .laysFinal "java/lang/String" "java/lang/String" "coder" "B", .fieldLink "java/lang/String" 15 "java/lang/String" "coder" "B"] ++ objW "java/lang/String" 1 ++ staticW "java/lang/String" 177 Cmp3.yN ++ staticW "java/lang/String" 47 CodL.yN
def tab : Cond := tabOf yN yB 6 none site
def P (a : Addr) (D : Cell) (fV fC : Field) (b : Addr) (A : Cell) (z : Int32) (o len : Nat) (args : Array Value) (s : State) : Prop := args = #[.ref a, .ref b, .int (Int32.ofNat o), .int (Int32.ofNat len), .null] ∧ Blank "java/lang/String" a D s ∧ Found "java/lang/String" "value" "[B" fV s ∧ Found "java/lang/String" "coder" "B" fC s ∧ Ch b A s ∧ StaticIs s "java/lang/String" "COMPACT_STRINGS" "Z" (.int z) ∧ ¬ z = 0 ∧ 0 < len ∧ o + len ≤ A.slots.size ∧ len ≤ 536870912 ∧ ∀ i, i < len → ¬ 255 < cv A (o + i)
def E (a : Addr) (D : Cell) (fV fC : Field) (A : Cell) (o len : Nat) (r : Option Value) (s u : State) : Prop := Got a D fV fC A o len r s u
/-- len > 0, no char of the range above 255: a Latin-1 String of their low bytes -/
theorem law (l : Launch) (a : Addr) (D : Cell) (fV fC : Field) (b : Addr) (A : Cell) (z : Int32) (o len : Nat) : Law l yN 5 4 2 35 yB 6 none site (P a D fV fC b A z o len) (E a D fV fC A o len) [⟨a, fC.slot⟩, ⟨a, fV.slot⟩] 1 len := by
  refine Law.of_walk (plainFor_of_name (by decide +kernel)) (by decide +kernel) (by decide +kernel) (by decide) (fun _ _ h => by rw [h.1]; rfl) (fun _ U U' hal hh h => ⟨h.1, h.2.1.mv hal hh, h.2.2.1.al hal, h.2.2.2.1.al hal, h.2.2.2.2.1.mv hal hh, h.2.2.2.2.2.1.there hal hh, h.2.2.2.2.2.2⟩) (fun r U U' V V' h1 hal h2 h => Got.mv r U U' V V' h1 hal h2 h) ?_
  intro p e s m args below meth c s₁ X0 hexec hbytes hml hret hlk hnm hown hh0 W hP
  obtain ⟨rfl, hB, f1, f2, hA, s1, hz, l0, l1, l2, hp⟩ := hP
  have a31 := hA.1.2.2.2
  have c1 : Steps p.tables e below (s₁.setTop (entryFrame m #[.ref a, .ref b, .int (Int32.ofNat o), .int (Int32.ofNat len), .null] 6)) (s₁.setTop (mkF m 0 #[.val (.ref a), .val (.ref b), .val (.int (Int32.ofNat o)), .val (.int (Int32.ofNat len)), .val .null, .unset] [])) := entry rfl
  have c2 : Steps p.tables e below (s₁.setTop (entryFrame m #[.ref a, .ref b, .int (Int32.ofNat o), .int (Int32.ofNat len), .null] 6)) (s₁.setTop (mkF m 1 #[.val (.ref a), .val (.ref b), .val (.int (Int32.ofNat o)), .val (.int (Int32.ofNat len)), .val .null, .unset] [.ref a])) := c1.trans (by
    refine XS.aloadN X0.here hexec rfl (hb hbytes d0) rfl rfl ?_
    exact Steps.refl _)
  obtain ⟨T3, X3, q3, st3⟩ := X0.oinit hexec hown (wks W (objW "java/lang/String" 1)) (g := (mkF m 1 #[.val (.ref a), .val (.ref b), .val (.int (Int32.ofNat o)), .val (.int (Int32.ofNat len)), .val .null, .unset] [.ref a])) rfl (by rw [hml]; rfl) (rest := []) rfl (hb hbytes d1) (W := 0) (by show 2 * 0 + 0 ≤ _; decide) (Nat.le_of_ble_eq_true rfl) (Nat.le_of_ble_eq_true rfl)
  have hh3 := q3.trans hh0
  have c4 : Steps p.tables e below (s₁.setTop (entryFrame m #[.ref a, .ref b, .int (Int32.ofNat o), .int (Int32.ofNat len), .null] 6)) (T3.setTop (mkF m 27 #[.val (.ref a), .val (.ref b), .val (.int (Int32.ofNat o)), .val (.int (Int32.ofNat len)), .val .null, .unset] [])) := (c2.trans (st3 _ (Steps.refl _))).trans (by
    refine XS.iloadN X3.here hexec rfl (hb hbytes d4) rfl ?_
    refine XS.ifYes X3.here hexec rfl (pc0 := 5) rfl (hb hbytes d5) rfl (i0_ne_t (nz32 (by omega) l0)) (by decide) rfl ?_
    exact Steps.refl _)
  obtain ⟨T5, X5, q5, st5⟩ := X3.sget hexec hown (wk W (.fieldLink "java/lang/String" 38 "java/lang/String" "COMPACT_STRINGS" "Z")) s1 (fun _ _ h => by rw [hh3]; exact h) (g := (mkF m 27 #[.val (.ref a), .val (.ref b), .val (.int (Int32.ofNat o)), .val (.int (Int32.ofNat len)), .val .null, .unset] [])) rfl (hb hbytes d27)
  have hh5 := q5.trans hh3
  have c6 : Steps p.tables e below (s₁.setTop (entryFrame m #[.ref a, .ref b, .int (Int32.ofNat o), .int (Int32.ofNat len), .null] 6)) (T5.setTop (mkF m 30 #[.val (.ref a), .val (.ref b), .val (.int (Int32.ofNat o)), .val (.int (Int32.ofNat len)), .val .null, .unset] [.int z])) := c4.trans (st5 _ (Steps.refl _))
  have c7 : Steps p.tables e below (s₁.setTop (entryFrame m #[.ref a, .ref b, .int (Int32.ofNat o), .int (Int32.ofNat len), .null] 6)) (T5.setTop (mkF m 36 #[.val (.ref a), .val (.ref b), .val (.int (Int32.ofNat o)), .val (.int (Int32.ofNat len)), .val .null, .unset] [.int (Int32.ofNat len), .int (Int32.ofNat o), .ref b])) := c6.trans (by
    refine XS.ifNo X5.here hexec rfl (hb hbytes d30) rfl (i0_eq_f hz) ?_
    refine XS.aloadN X5.here hexec rfl (hb hbytes d33) rfl rfl ?_
    refine XS.iloadN X5.here hexec rfl (hb hbytes d34) rfl ?_
    refine XS.iloadN X5.here hexec rfl (hb hbytes d35) rfl ?_
    exact Steps.refl _)
  obtain ⟨v8, T8, X8, E8, g8⟩ := X5.callS hexec (Cmp3.law l b A o len) hown (wks W (staticW "java/lang/String" 177 Cmp3.yN)) (wk W Cmp3.tab) (W := 0) (Nat.le_of_ble_eq_true rfl) (Nat.le_of_ble_eq_true rfl) (Nat.le_refl _) (by show 0 + len ≤ len; omega) (g := (mkF m 36 #[.val (.ref a), .val (.ref b), .val (.int (Int32.ofNat o)), .val (.int (Int32.ofNat len)), .val .null, .unset] [.int (Int32.ofNat len), .int (Int32.ofNat o), .ref b])) rfl (by rw [hml]; rfl) c7 (argsL := [.ref b, .int (Int32.ofNat o), .int (Int32.ofNat len)]) (rest := []) rfl rfl (by show 2 * 0 + 0 ≤ _; decide) (hb hbytes d36) (⟨rfl, hA.mv X5.warmed.alike hh5, l1, l2, hp⟩)
  obtain ⟨e8, z8⟩ := E8
  obtain ⟨rfl, N, n1, n2, n3, n4, n5, n6⟩ := NewArr.mv _ T5 s _ _ hh5.symm (Vm.Alike.refl _) rfl e8
  rw [hh5] at z8
  have hB1 := hB.keep X8.warmed.alike (n6 _ _ hB.1)
  have hne : s.heap.size ≠ a := (Nat.ne_of_lt (Array.getElem?_eq_some_iff.mp hB.1).1).symm
  have c9 : Steps p.tables e below (s₁.setTop (entryFrame m #[.ref a, .ref b, .int (Int32.ofNat o), .int (Int32.ofNat len), .null] 6)) (T8.setTop (mkF m 39 #[.val (.ref a), .val (.ref b), .val (.int (Int32.ofNat o)), .val (.int (Int32.ofNat len)), .val .null, .unset] [.ref s.heap.size])) := g8
  have c10 : Steps p.tables e below (s₁.setTop (entryFrame m #[.ref a, .ref b, .int (Int32.ofNat o), .int (Int32.ofNat len), .null] 6)) (T8.setTop (mkF m 45 #[.val (.ref a), .val (.ref b), .val (.int (Int32.ofNat o)), .val (.int (Int32.ofNat len)), .val .null, .val (.ref s.heap.size)] [.int (Int32.ofNat N.slots.size), .ref s.heap.size, .ref a])) := by
    have hc : Steps p.tables e below (s₁.setTop (entryFrame m #[.ref a, .ref b, .int (Int32.ofNat o), .int (Int32.ofNat len), .null] 6)) (T8.setTop (mkF m 45 #[.val (.ref a), .val (.ref b), .val (.int (Int32.ofNat o)), .val (.int (Int32.ofNat len)), .val .null, .val (.ref s.heap.size)] [.int (Int32.ofNat len), .ref s.heap.size, .ref a])) := c9.trans (by
      refine XS.astore X8.here hexec rfl (hb hbytes d39) rfl rfl rfl ?_
      refine XS.aloadN X8.here hexec rfl (hb hbytes d41) rfl rfl ?_
      refine XS.aload X8.here hexec rfl (hb hbytes d42) rfl rfl ?_
      refine XS.iloadN X8.here hexec rfl (hb hbytes d44) rfl ?_
      exact Steps.refl _)
    rw [n4]; exact hc
  obtain ⟨v11, T11, X11, E11, g11⟩ := X8.callS hexec (CodL.law l s.heap.size N) hown (wks W (staticW "java/lang/String" 47 CodL.yN)) (wk W CodL.tab) (W := 1) (Nat.le_of_ble_eq_true rfl) (Nat.le_of_ble_eq_true rfl) (Nat.le_refl _) (by show 0 + len + 0 ≤ len; omega) (g := (mkF m 45 #[.val (.ref a), .val (.ref b), .val (.int (Int32.ofNat o)), .val (.int (Int32.ofNat len)), .val .null, .val (.ref s.heap.size)] [.int (Int32.ofNat N.slots.size), .ref s.heap.size, .ref a])) rfl (by rw [hml]; rfl) c10 (argsL := [.ref s.heap.size, .int (Int32.ofNat N.slots.size)]) (rest := [.ref a]) rfl rfl (by show 2 * 0 + (1 + 0) ≤ _; decide) (hb hbytes d45) (⟨rfl, n1⟩)
  obtain ⟨rfl, q11⟩ := E11
  have hB11 := hB1.mv (X8.warmed.alike.symm.trans X11.warmed.alike) q11
  have c12 : Steps p.tables e below (s₁.setTop (entryFrame m #[.ref a, .ref b, .int (Int32.ofNat o), .int (Int32.ofNat len), .null] 6)) (T11.setTop (mkF m 48 #[.val (.ref a), .val (.ref b), .val (.int (Int32.ofNat o)), .val (.int (Int32.ofNat len)), .val .null, .val (.ref s.heap.size)] [.int 0, .ref a])) := g11
  obtain ⟨T13, X13, p13, bl13, sl13, st13⟩ := X11.finit hexec hown (wk W (.fieldLink "java/lang/String" 15 "java/lang/String" "coder" "B")) (Or.inr ⟨_, (wk W (.laysFinal "java/lang/String" "java/lang/String" "coder" "B"))⟩) (Or.inl ⟨rfl, hnm⟩) f2 (Or.inl rfl) hB11 (t := .byte) (by decide +kernel) rfl (g := (mkF m 48 #[.val (.ref a), .val (.ref b), .val (.int (Int32.ofNat o)), .val (.int (Int32.ofNat len)), .val .null, .val (.ref s.heap.size)] [.int 0, .ref a])) rfl (rest := []) rfl (hb hbytes d48)
  have c14 : Steps p.tables e below (s₁.setTop (entryFrame m #[.ref a, .ref b, .int (Int32.ofNat o), .int (Int32.ofNat len), .null] 6)) (T13.setTop (mkF m 54 #[.val (.ref a), .val (.ref b), .val (.int (Int32.ofNat o)), .val (.int (Int32.ofNat len)), .val .null, .val (.ref s.heap.size)] [.ref s.heap.size, .ref a])) := (c12.trans (st13 _ (Steps.refl _))).trans (by
    refine XS.aloadN X13.here hexec rfl (hb hbytes d51) rfl rfl ?_
    refine XS.aload X13.here hexec rfl (hb hbytes d52) rfl rfl ?_
    exact Steps.refl _)
  obtain ⟨T15, X15, p15, bl15, sl15, st15⟩ := X13.finit hexec hown (wk W (.fieldLink "java/lang/String" 9 "java/lang/String" "value" "[B")) (Or.inr ⟨_, (wk W (.laysFinal "java/lang/String" "java/lang/String" "value" "[B"))⟩) (Or.inl ⟨rfl, hnm⟩) f1 (Or.inl rfl) bl13 (t := (.array .byte)) (by decide +kernel) rfl (g := (mkF m 54 #[.val (.ref a), .val (.ref b), .val (.int (Int32.ofNat o)), .val (.int (Int32.ofNat len)), .val .null, .val (.ref s.heap.size)] [.ref s.heap.size, .ref a])) rfl (rest := []) rfl (hb hbytes d54)
  have c16 : Steps p.tables e below (s₁.setTop (entryFrame m #[.ref a, .ref b, .int (Int32.ofNat o), .int (Int32.ofNat len), .null] 6)) (T15.setTop (mkF m 57 #[.val (.ref a), .val (.ref b), .val (.int (Int32.ofNat o)), .val (.int (Int32.ofNat len)), .val .null, .val (.ref s.heap.size)] [])) := c14.trans (st15 _ (Steps.refl _))
  have ap := apart (Or.inr ⟨_, (wk W (.laysFinal "java/lang/String" "java/lang/String" "value" "[B"))⟩) (Or.inr ⟨_, (wk W (.laysFinal "java/lang/String" "java/lang/String" "coder" "B"))⟩) f1 f2 (t₁ := .array .byte) (t₂ := .byte) (by decide +kernel) (by decide +kernel) (by decide)
  have al := X8.warmed.alike.symm.trans X15.warmed.alike
  have n7 : T11.heap[s.heap.size]? = some N := by rw [q11]; exact n1.1
  exact ⟨T15, none, _, _, _, X15, by simp, rfl, by omega, (fun _ => rfl), ⟨rfl, _, N, bl15, ((Same.refl D _).set _ (by simp)).set _ (by simp), sl15, (Cell.slots_setSlot_ne _ ap).trans sl13, n1.keep al (p15.other hne (p13.other hne n7)), n2, by rw [al.findClass]; exact n3, n4, n5, fun y c h1 h2 => p15.other h1 (p13.other h1 (by rw [q11]; exact n6 y c h2)), by rw [p15.2.2, p13.2.2, q11]; exact z8⟩, fun fs hl => c16.trans (X15.returnOut hexec hret (hb hbytes d57) hl)⟩
end New4
namespace New1
def yN : MethodName := ⟨"java/lang/String", "<init>", "([C)V"⟩
abbrev yB : ByteArray := jdk_42_method_3_code
theorem d0 : decode yB 0 = .ok (.aload_n 0, 1) := by decide +kernel
theorem d1 : decode yB 1 = .ok (.aload_n 1, 1) := by decide +kernel
theorem d2 : decode yB 2 = .ok (.iconst 0, 1) := by decide +kernel
theorem d3 : decode yB 3 = .ok (.aload_n 1, 1) := by decide +kernel
theorem d4 : decode yB 4 = .ok (.arraylength, 1) := by decide +kernel
theorem d5 : decode yB 5 = .ok (.aconst_null, 1) := by decide +kernel
theorem d6 : decode yB 6 = .ok (.invokespecial 27, 3) := by decide +kernel
theorem d9 : decode yB 9 = .ok (.return_, 1) := by decide +kernel
def site : List Cond := [New4.tab] ++ initW "java/lang/String" 27 New4.yN
def tab : Cond := tabOf yN yB 2 none site
def P (a : Addr) (D : Cell) (fV fC : Field) (b : Addr) (A : Cell) (z : Int32) (args : Array Value) (s : State) : Prop := args = #[.ref a, .ref b] ∧ Blank "java/lang/String" a D s ∧ Found "java/lang/String" "value" "[B" fV s ∧ Found "java/lang/String" "coder" "B" fC s ∧ Ch b A s ∧ StaticIs s "java/lang/String" "COMPACT_STRINGS" "Z" (.int z) ∧ ¬ z = 0 ∧ 0 < A.slots.size ∧ A.slots.size ≤ 536870912 ∧ ∀ i, i < A.slots.size → ¬ 255 < cv A i
def E (a : Addr) (D : Cell) (fV fC : Field) (A : Cell) (r : Option Value) (s u : State) : Prop := Got a D fV fC A 0 A.slots.size r s u
/-- new String(chars), not empty, no char above 255: a Latin-1 String of their low bytes -/
theorem law (l : Launch) (a : Addr) (D : Cell) (fV fC : Field) (b : Addr) (A : Cell) (z : Int32) : Law l yN 2 1 3 52 yB 2 none site (P a D fV fC b A z) (E a D fV fC A) [⟨a, fC.slot⟩, ⟨a, fV.slot⟩] 1 A.slots.size := by
  refine Law.of_walk (plainFor_of_name (by decide +kernel)) (by decide +kernel) (by decide +kernel) (by decide) (fun _ _ h => by rw [h.1]; rfl) (fun _ U U' hal hh h => ⟨h.1, h.2.1.mv hal hh, h.2.2.1.al hal, h.2.2.2.1.al hal, h.2.2.2.2.1.mv hal hh, h.2.2.2.2.2.1.there hal hh, h.2.2.2.2.2.2⟩) (fun r U U' V V' h1 hal h2 h => Got.mv r U U' V V' h1 hal h2 h) ?_
  intro p e s m args below meth c s₁ X0 hexec hbytes hml hret hlk hnm hown hh0 W hP
  obtain ⟨rfl, hB, f1, f2, hA, s1, hz, l0, l2, hp⟩ := hP
  have c1 : Steps p.tables e below (s₁.setTop (entryFrame m #[.ref a, .ref b] 2)) (s₁.setTop (mkF m 0 #[.val (.ref a), .val (.ref b)] [])) := entry rfl
  have c2 : Steps p.tables e below (s₁.setTop (entryFrame m #[.ref a, .ref b] 2)) (s₁.setTop (mkF m 6 #[.val (.ref a), .val (.ref b)] [.null, .int (Int32.ofNat A.slots.size), .int 0, .ref b, .ref a])) := c1.trans (by
    refine XS.aloadN X0.here hexec rfl (hb hbytes d0) rfl rfl ?_
    refine XS.aloadN X0.here hexec rfl (hb hbytes d1) rfl rfl ?_
    refine iconstV X0.here hexec rfl 0 (hb hbytes d2) (by decide) ?_
    refine XS.aloadN X0.here hexec rfl (hb hbytes d3) rfl rfl ?_
    refine X0.alen hexec (hA.1.mv X0.warmed.alike hh0) rfl rfl (hb hbytes d4) ?_
    refine XS.aconstNull X0.here hexec rfl (hb hbytes d5) ?_
    exact Steps.refl _)
  obtain ⟨v3, T3, X3, E3, g3⟩ := X0.callN hexec (New4.law l a D fV fC b A z 0 A.slots.size) rfl hown (wks W (initW "java/lang/String" 27 New4.yN)) (W New4.tab (by simp only [site, List.mem_cons, List.mem_append, true_or, or_true])) (W := 0) (Nat.le_of_ble_eq_true rfl) (Nat.le_of_ble_eq_true rfl) (Nat.le_refl _) (by show 0 + A.slots.size ≤ A.slots.size; omega) (g := (mkF m 6 #[.val (.ref a), .val (.ref b)] [.null, .int (Int32.ofNat A.slots.size), .int (Int32.ofNat 0), .ref b, .ref a])) rfl (by rw [hml]; rfl) c2 (argsL := [.ref b, .int (Int32.ofNat 0), .int (Int32.ofNat A.slots.size), .null]) (rest := []) rfl rfl (by show 2 * 0 + 0 ≤ _; decide) (hb hbytes d6) (⟨rfl, hB.mv X0.warmed.alike hh0, f1.al X0.warmed.alike, f2.al X0.warmed.alike, hA.mv X0.warmed.alike hh0, s1.there X0.warmed.alike hh0, hz, l0, by omega, l2, fun i hi => by rw [Nat.zero_add]; exact hp i hi⟩)
  have e0 := Got.mv _ s₁ s _ _ hh0.symm (Vm.Alike.refl _) rfl E3
  obtain rfl := e0.1
  have c4 : Steps p.tables e below (s₁.setTop (entryFrame m #[.ref a, .ref b] 2)) (T3.setTop (mkF m 9 #[.val (.ref a), .val (.ref b)] [])) := g3
  exact ⟨T3, none, _, _, _, X3, by simp, rfl, by omega, (fun _ => rfl), e0, fun fs hl => c4.trans (X3.returnOut hexec hret (hb hbytes d9) hl)⟩
theorem pays {l : Launch} {R : Room} {p : Program} {e : Env} {below : List Frame} {s : State} {sargs : Array Value} {len W : Nat} (a : Addr) (D : Cell) (fV fC : Field) (b : Addr) (A : Cell) (z : Int32) (htab : tab.before sargs s = true) (hfr : 4 ≤ R.frames) (hlo : W + 65 ≤ R.locals) :
    Back l R p e below s sargs yN len W (fun A₁ a₁ => A₁.cells + 1 ≤ R.cells ∧ A₁.slots + A.slots.size ≤ R.slots ∧ P a D fV fC b A z a₁ A₁.U) (fun A₁ _ v₁ B₁ => E a D fV fC A v₁ A₁.U B₁.U ∧ B₁.locs = A₁.locs ++ [⟨a, fC.slot⟩, ⟨a, fV.slot⟩] ∧ B₁.cells = A₁.cells + 1 ∧ B₁.slots = A₁.slots + A.slots.size) :=
  (law l a D fV fC b A z).pays htab hfr (by omega)
end New1
end StrChars
namespace StrChars.Road
open Jvm Sem ClassFile Op Lib Jvm.Stand Jvm.Free Jvm.Free.XT
open Jvm.Lib.Cold (StaticIs)
abbrev ST : String := "java/lang/String"
/-- every table word that New1's law asks, flat -/
abbrev words : List Jvm.Cond := [.code New1.yN New1.yB 2 none, .initialized ST, .methodLink ST 27 New4.yN, .instanceMethod New4.yN,
  .code New4.yN New4.yB 6 none, .fieldLink ST 38 ST "COMPACT_STRINGS" "Z", .laysFinal ST ST "value" "[B", .fieldLink ST 9 ST "value" "[B", .laysFinal ST ST "coder" "B", .fieldLink ST 15 ST "coder" "B",
  .methodLink ST 1 Lib.objectInit, .instanceMethod Lib.objectInit, .code Lib.objectInit ⟨#[0xb1]⟩ 1 none, .methodLink ST 177 Cmp3.yN, .static Cmp3.yN, .methodLink ST 47 CodL.yN, .static CodL.yN,
  .code Cmp3.yN Cmp3.yB 6 (some (.array .byte)), .initialized U16, .arrayClass .byte, .methodLink U16 115 Cmp5.yN, .static Cmp5.yN, .code Cmp5.yN Cmp5.yB 7 (some .int), .code CodL.yN CodL.yB 2 (some .byte)]
theorem tab_of {a : Array Value} {s : State} (h : ∀ w ∈ words, w.before a s = true) : New1.tab.before a s = true := by
  have h5 : Cmp5.tab.before a s = true := unparts (wk h (.code Cmp5.yN Cmp5.yB 7 (some .int))) (wks h (.initialized Cmp5.yN.cls :: Cmp5.site))
  have hc : CodL.tab.before a s = true := unparts (wk h (.code CodL.yN CodL.yB 2 (some .byte))) (wks h (.initialized CodL.yN.cls :: CodL.site))
  have q5 : ∀ w ∈ Cmp5.tab :: words, w.before a s = true := fun w hw => (List.mem_cons.mp hw).elim (fun e => e ▸ h5) (h w)
  have h3 : Cmp3.tab.before a s = true := unparts (wk q5 (.code Cmp3.yN Cmp3.yB 6 (some (.array .byte)))) (wks q5 (.initialized Cmp3.yN.cls :: Cmp3.site))
  have q3 : ∀ w ∈ Cmp3.tab :: CodL.tab :: words, w.before a s = true := fun w hw => (List.mem_cons.mp hw).elim (fun e => e ▸ h3) fun hw => (List.mem_cons.mp hw).elim (fun e => e ▸ hc) (h w)
  have h4 : New4.tab.before a s = true := unparts (wk q3 (.code New4.yN New4.yB 6 none)) (wks q3 (.initialized New4.yN.cls :: New4.site))
  have q4 : ∀ w ∈ New4.tab :: words, w.before a s = true := fun w hw => (List.mem_cons.mp hw).elim (fun e => e ▸ h4) (h w)
  exact unparts (wk q4 (.code New1.yN New1.yB 2 none)) (wks q4 (.initialized New1.yN.cls :: New1.site))
/-- the words ride from the start Z to the walk's own state -/
theorem moved {Z s : State} {a0 args : Array Value} (hZ : Z.Warmed39 s.vm) (hw : ∀ d ∈ words, d.before a0 Z = true) : ∀ d ∈ words, d.before args s = true := fun d hd => by
  have q := hw d hd
  have t : ∀ d ∈ words, d = .arrayClass .byte ∨ (d.onTables && d.keepsFace) = true := by decide +kernel
  rcases t d hd with rfl | t
  · exact RoadKit.mvA hZ q
  · exact RoadKit.mv hZ q t
/-- WHAT COMES BACK, over the tables of the start Z: h the heap at the call, h' behind it -/
def Q (Z : State) (x : Addr) (A : Cell) (h : Heap) (v : Option Value) (h' : Heap) (L : List Loc) : Prop := v = none ∧ (∀ y ∈ L, y.base = x) ∧ RoadKit.Keep h h' [x] ∧ h'.size = h.size + 1 ∧ RoadKit.Exa Z h' x ST ∧ RoadKit.Fld Z h' x ST "value" "[B" (.ref h.size) ∧ RoadKit.Fld Z h' x ST "coder" "B" (.int 0) ∧
  (∃ V : Cell, RoadKit.Arr Z h' h.size V .byte ∧ V.vm = .none ∧ Z.vm.findClass "[B" = some V.cls ∧ V.slots.size = A.slots.size ∧ ∀ j, j < A.slots.size → V.slots[j]? = some (.int (lo8 (cv A j)))) ∧
  ∀ (O n d : String) (w : Value), RoadKit.Fld Z h x O n d w → RoadKit.slotOf Z O n d ≠ RoadKit.slotOf Z ST "value" "[B" → RoadKit.slotOf Z O n d ≠ RoadKit.slotOf Z ST "coder" "B" → RoadKit.Fld Z h' x O n d w
/-- **new String(chars) AT A CALL, IN THE ROAD'S FORM**: for specialBack behind newO: x the fresh String, b the char[] with the cell A -/
theorem back {p : Program} {l : Launch} {e : Env} {R : Room} {s : State} {args : Array Value} {below : List Frame} {len W : Nat} {Z : State} {a0 : Array Value} {h : Heap} (hZ : Z.Warmed39 s.vm) (hw : ∀ d ∈ words, d.before a0 Z = true) {kI : Nat} (wi : (Jvm.Cond.instantiable ST kI).before a0 Z = true)
    {x b : Addr} {A : Cell} {z : Int32} {v0 c0 : Value} (E : RoadKit.Exa Z h x ST) (V : RoadKit.Fld Z h x ST "value" "[B" v0) (C : RoadKit.Fld Z h x ST "coder" "B" c0) (K : RoadKit.Arr Z h b A .char) (hty : Typed .char A) (S : RoadKit.Sta Z h ST "COMPACT_STRINGS" "Z" (.int z)) (hz : ¬ z = 0)
    (l0 : 0 < A.slots.size) (l2 : A.slots.size ≤ 536870912) (hp : ∀ i, i < A.slots.size → ¬ 255 < cv A i) (hfr : 4 ≤ R.frames) (hlo : W + 65 ≤ R.locals) :
    Back l R p e below s args New1.yN len W (fun P a => a = #[.ref x, .ref b] ∧ P.U.heap = h ∧ P.cells + 1 ≤ R.cells ∧ P.slots + A.slots.size ≤ R.slots)
      (fun P _ v B => ∃ L, Q Z x A h v B.U.heap L ∧ B.locs = P.locs ++ L ∧ B.cells = P.cells + 1 ∧ B.slots = P.slots + A.slots.size) := by
  intro m meth c P g ig mk a X hg hsize hdg hW hn hp'
  obtain ⟨rfl, rfl, r1, r2⟩ := hp'
  have al : Z.vm.Alike P.U.vm := hZ.alike.trans X.warmed.alike
  obtain ⟨D, cfV, kV, iV, fV, hD, gV, stV, knV, obV, asV, slV⟩ := id V
  obtain ⟨D', cfC, kC, iC, fC, hD', gC, stC, -, -, asC, slC⟩ := id C
  cases hD.symm.trans hD'
  obtain ⟨D2, kD, e1, e2, e3, e4, e5⟩ := id E
  cases hD.symm.trans e1
  obtain ⟨c2, k2, i1, i2, i3, -⟩ := Cond.instantiable_spec wi
  cases e2.symm.trans i1
  cases e3.symm.trans i2
  obtain ⟨kU, u1, u2⟩ := al.2.2 _ _ e3
  have hB : Blank ST x D P.U := ⟨hD, ⟨knV, fun q hq => by rw [hq] at obV; cases obV⟩, by rw [al.findClass]; exact e2, kU, u1, by rw [u2]; exact i3, by rw [u2]; exact e5 i3⟩
  have F1 : Found ST "value" "[B" fV P.U := ⟨SBG.found_only al ⟨cfV, kV, iV, gV⟩, stV⟩
  have F2 : Found ST "coder" "B" fC P.U := ⟨SBG.found_only al ⟨cfC, kC, iC, gC⟩, stC⟩
  have hA : Ch b A P.U := ⟨⟨K.1, State.isArrayOf_alike al K.2.1, K.2.2, by omega⟩, hty⟩
  have hS : StaticIs P.U ST "COMPACT_STRINGS" "Z" (.int z) := by
    obtain ⟨cfS, iS, kS, fS, st, cS, t1, t2, t3, t4, t5, t6, t7⟩ := S
    exact StaticIs.there (s := { Z with heap := P.U.heap }) ⟨cfS, iS, kS, fS, st, cS, t1, t2, t3, t4, t5, (fun q => by rw [q] at t6; cases t6), t7⟩ al rfl
  obtain ⟨v, B, X', ⟨⟨hv, E', V', q1, q2, q3, q4, q5, q6, q7, q8, q9, q10, q11⟩, hl, hc, hs⟩, st⟩ := New1.pays x D fV fC b A z (tab_of (moved hZ hw)) hfr hlo m meth c P g ig mk _ X hg hsize hdg hW hn ⟨r1, r2, rfl, hB, F1, F2, hA, hS, hz, l0, l2, hp⟩
  have al' : Z.vm.Alike B.U.vm := hZ.alike.trans X'.warmed.alike
  have hsz : E'.slots.size = D.slots.size := by
    obtain ⟨-, -, -, kB, w1, w2, w3⟩ := q1
    obtain ⟨kB', y1, y2⟩ := al'.2.2 _ _ e3
    rw [q2.2.1] at w1
    cases w1.symm.trans y1
    rw [w3, e5 i3, y2]
  refine ⟨v, B, X', ⟨_, ⟨hv, ?_, ⟨by omega, fun y cy hy hn' => q10 y cy (by simpa using hn') hy, fun y cy hy => ?_⟩, q11, ⟨E', _, q1.1, by rw [q2.2.1]; exact e2, by rw [q2.2.1]; exact e3, by rw [q2.1]; exact obV, fun _ => by rw [hsz]; exact e5 i3⟩,
    ⟨E', cfV, kV, iV, fV, q1.1, gV, stV, by rw [q2.1]; exact knV, by rw [q2.1]; exact obV, by rw [q2.2.1]; exact asV, q3⟩, ⟨E', cfC, kC, iC, fC, q1.1, gC, stC, by rw [q2.1]; exact knV, by rw [q2.1]; exact obV, by rw [q2.2.1]; exact asC, q4⟩,
    ⟨V', ⟨q5.1, State.isArrayOf_alike al'.symm q5.2.1, q5.2.2.1⟩, q6, by rw [← al'.findClass]; exact q7, q8, fun j hj => by have := q9 j hj; rwa [Nat.zero_add] at this⟩, fun O n d w F n1 n2 => ?_⟩, hl, hc, hs⟩, st⟩
  · intro y hy
    simp only [List.mem_cons, List.not_mem_nil, or_false] at hy
    rcases hy with rfl | rfl <;> rfl
  · by_cases q : y = x
    · subst q
      cases hD.symm.trans hy
      exact ⟨E', q1.1, q2.2.1, q2.1, hsz⟩
    · exact ⟨cy, q10 y cy q hy, rfl, rfl, rfl⟩
  · obtain ⟨D3, cf, k, i, f, g1, g2, g3, g4, g5, g6, g7⟩ := F
    cases hD.symm.trans g1
    simp only [RoadKit.slotOf, g2, gV, gC, Option.map_some, Option.getD_some] at n1 n2
    exact ⟨E', cf, k, i, f, q1.1, g2, g3, by rw [q2.1]; exact g4, by rw [q2.1]; exact g5, by rw [q2.2.1]; exact g6, by rw [q2.2.2 f.slot (by simp [n1, n2])]; exact g7⟩
end StrChars.Road
namespace StrChars.Road
open Jvm Sem ClassFile Op Lib Jvm.Stand Jvm.Free Jvm.Free.XT
/-- WHAT COMES BACK, the byte[] as a list of values -/
def QA (Z : State) (x : Addr) (zn : Int32) (cs : List Int32) (h : Heap) (v : Option Value) (h' : Heap) (L : List Loc) : Prop := v = none ∧ (∀ y ∈ L, y.base = x) ∧ RoadKit.Keep h h' [x] ∧ h'.size = h.size + 1 ∧ RoadKit.Exa Z h' x ST ∧ RoadKit.Fld Z h' x ST "value" "[B" (.ref h.size) ∧ RoadKit.Fld Z h' x ST "coder" "B" (.int 0) ∧
  (∃ kb, Z.vm.findClass "[B" = some kb ∧ RoadKit.Arv Z h' h.size kb .byte zn (cs.map fun c => .int (lo8 c)) (.int 0)) ∧
  ∀ (O n d : String) (w : Value), RoadKit.Fld Z h x O n d w → RoadKit.slotOf Z O n d ≠ RoadKit.slotOf Z ST "value" "[B" → RoadKit.slotOf Z O n d ≠ RoadKit.slotOf Z ST "coder" "B" → RoadKit.Fld Z h' x O n d w
/-- **new String(chars) AT A CALL, THE ARRAYS AS LISTS**: the char[] at b holds cs, not empty, no char above 255 -/
theorem backArv {p : Program} {l : Launch} {e : Env} {R : Room} {s : State} {args : Array Value} {below : List Frame} {len W : Nat} {Z : State} {a0 : Array Value} {h : Heap} (hZ : Z.Warmed39 s.vm) (hw : ∀ d ∈ words, d.before a0 Z = true) {kI : Nat} (wi : (Jvm.Cond.instantiable ST kI).before a0 Z = true)
    {x b : Addr} {k : ClassId} {zn z : Int32} {cs : List Int32} {dv v0 c0 : Value} (E : RoadKit.Exa Z h x ST) (V : RoadKit.Fld Z h x ST "value" "[B" v0) (C : RoadKit.Fld Z h x ST "coder" "B" c0) (K : RoadKit.Arv Z h b k .char zn (cs.map Value.int) dv) (S : RoadKit.Sta Z h ST "COMPACT_STRINGS" "Z" (.int z)) (hz : ¬ z = 0)
    (hlen : zn.toNatClampNeg = cs.length) (h0 : 0 < cs.length) (hbig : cs.length ≤ 536870912) (hall : ∀ c ∈ cs, ¬ 255 < c) (hfr : 4 ≤ R.frames) (hlo : W + 65 ≤ R.locals) :
    Back l R p e below s args New1.yN len W (fun P a => a = #[.ref x, .ref b] ∧ P.U.heap = h ∧ P.cells + 1 ≤ R.cells ∧ P.slots + cs.length ≤ R.slots)
      (fun P _ v B => ∃ L, QA Z x zn cs h v B.U.heap L ∧ B.locs = P.locs ++ L ∧ B.cells = P.cells + 1 ∧ B.slots = P.slots + cs.length) := by
  obtain ⟨A, K1, K2, K3, K4, K5, K6⟩ := K
  have e : A.slots.size = cs.length := K3.trans hlen
  have hat : ∀ (i : Nat) (hi : i < cs.length), A.slots[i]? = some (.int cs[i]) := fun i hi => by rw [K5 i (by omega)]; simp [List.getD_eq_getElem?_getD, hi]
  have hcv : ∀ (i : Nat) (hi : i < cs.length), cv A i = cs[i] := fun i hi => by unfold cv; rw [hat i hi]
  have hty : Typed .char A := fun i v hv => by
    have hi : i < A.slots.size := (Array.getElem?_eq_some_iff.mp hv).1
    have q := K5 i hi
    rw [hv] at q
    rw [Option.some.inj q]
    exact K6 i hi
  refine Back.mono (back hZ hw wi E V C K1 hty S hz (by omega) (by omega) (fun i hi => by rw [hcv i (by omega)]; exact hall _ (List.getElem_mem _)) hfr hlo) (fun P a hp => ⟨hp.1, hp.2.1, hp.2.2.1, by rw [e]; exact hp.2.2.2⟩) (fun P a v B hp hq => ?_)
  obtain ⟨L, ⟨q1, q2, q3, q4, q5, q6, q7, ⟨V', v1, v2, v3, v4, v5⟩, q9⟩, hl, hc, hs⟩ := hq
  refine ⟨L, ⟨q1, q2, q3, q4, q5, q6, q7, ⟨V'.cls, v3, V', v1, rfl, by rw [v4, e, hlen], K4, fun i hi => ?_, fun i hi => ?_⟩, q9⟩, hl, hc, by rw [hs, e]⟩
  · have hi' : i < cs.length := by omega
    rw [v5 i (by omega), hcv i hi']; simp [List.getD_eq_getElem?_getD, hi']
  · have hi' : i < cs.length := by omega
    simp only [List.getD_eq_getElem?_getD, List.getElem?_map, List.getElem?_eq_getElem hi', Option.map_some, Option.getD_some]
    exact fits_lo8 _
end StrChars.Road
namespace StrChars.Road
open Jvm Sem ClassFile Op Lib Jvm.Stand Jvm.Free Jvm.Free.XT
/-- WHAT COMES BACK, in the writer's own shape -/
def QV (Z : State) (x : Addr) (N : Int32) (bs : List Int32) (h : Heap) (n0 : Nat) (v : Option Value) (h' : Heap) (L : List Loc) : Prop := v = none ∧ RoadKit.Fr n0 L ∧ RoadKit.Keep h h' [x] ∧ RoadKit.Exa Z h' x ST ∧ RoadKit.Fld Z h' x ST "coder" "B" (.int 0) ∧
  ∃ (t : Addr) (kb : ClassId), n0 ≤ t ∧ h.size ≤ t ∧ ¬ t = x ∧ RoadKit.Fld Z h' x ST "value" "[B" (.ref t) ∧ RoadKit.Arv Z h' t kb .byte N (bs.map Value.int) (.int 0)
/-- **new String(chars) AT A CALL, FOR THE WRITER**: a char[] of n known ints, each 0 to 255 -/
theorem backV {p : Program} {l : Launch} {e : Env} {R : Room} {s : State} {args : Array Value} {below : List Frame} {len W : Nat} {Z : State} {a0 : Array Value} {h : Heap} (hZ : Z.Warmed39 s.vm) (hw : ∀ d ∈ words, d.before a0 Z = true) {kI : Nat} (wi : (Jvm.Cond.instantiable ST kI).before a0 Z = true)
    {x b : Addr} {kC : ClassId} {cs bs : List Int32} {d v0 c0 : Value} {z N : Int32} {n n0 : Nat} (hx0 : n0 ≤ x) (hh0 : n0 ≤ h.size) (E : RoadKit.Exa Z h x ST) (V : RoadKit.Fld Z h x ST "value" "[B" v0) (C : RoadKit.Fld Z h x ST "coder" "B" c0) (K : RoadKit.Arv Z h b kC .char N (cs.map Value.int) d) (S : RoadKit.Sta Z h ST "COMPACT_STRINGS" "Z" (.int z)) (hz : ¬ z = 0)
    (hn : cs.length = n) (hN : N = Int32.ofNat n) (l0 : 0 < n) (l2 : n ≤ 4000) (hp : ∀ c ∈ cs, ¬ c < 0 ∧ ¬ (255 : Int32) < c) (hb : bs = cs.map (fun c => c.toInt8.toInt32)) (hfr : 4 ≤ R.frames) (hlo : W + 65 ≤ R.locals) :
    Back l R p e below s args (⟨"java/lang/String", "<init>", "([C)V"⟩ : MethodName) len W (fun P a => a = #[.ref x, .ref b] ∧ P.U.heap = h ∧ P.cells + 1 ≤ R.cells ∧ P.slots + n ≤ R.slots)
      (fun P _ v B => ∃ L, QV Z x N bs h n0 v B.U.heap L ∧ B.locs = P.locs ++ L ∧ B.cells = P.cells + 1 ∧ B.slots = P.slots + n) := by
  subst hn hN hb
  refine Back.mono (backArv hZ hw wi E V C K S hz (n32 (by omega)) l0 (by omega) (fun c hc => (hp c hc).2) hfr hlo) (fun P a hp => hp) (fun P a v B hp hq => ?_)
  obtain ⟨L, ⟨q1, q2, q3, q4, q5, q6, q7, ⟨kb, v1, v2⟩, q9⟩, hl, hc, hs⟩ := hq
  exact ⟨L, ⟨q1, fun y hy => by rw [q2 y hy]; exact hx0, q3, q5, q7, h.size, kb, hh0, Nat.le_refl _, Nat.ne_of_gt E.lt, q6, by rw [List.map_map]; exact v2⟩, hl, hc, hs⟩
end StrChars.Road
end Jvm.Pilot.@@N@@
namespace Jvm.Pilot.@@N@@
open Jvm Jvm.ClassFile Sem Op Lib Jvm.Free Jvm.Stand Jvm.LawKit Jvm.RoadKit Bundle Jvm.Pilot.@@N@@.Jvm.D
/-- from t the run comes to an end of which P holds -/
def Goes (tb : Tables) (e : Env) (below : List Frame) (P : Outcome → State → Prop) (t : State) : Prop := ∃ s₂ o, Steps tb e below t s₂ ∧ s₂.status = .running ∧ Ended s₂ below o ∧ P o s₂
theorem Goes.on {tb : Tables} {e : Env} {below : List Frame} {P : Outcome → State → Prop} {t t' : State} (h : ∀ target, Steps tb e below t' target → Steps tb e below t target) (k : Goes tb e below P t') : Goes tb e below P t := by
  obtain ⟨s₂, o, h1, h2⟩ := k
  exact ⟨s₂, o, h _ h1, h2⟩
theorem Goes.to {tb : Tables} {e : Env} {below : List Frame} {P : Outcome → State → Prop} {t t' : State} (h : Steps tb e below t t') (k : Goes tb e below P t') : Goes tb e below P t := k.on fun _ q => h.trans q
/-- what a body's end says -/
def Ends (s : State) (Q : Option Value → Heap → List Loc → Prop) (C S : Nat) (o : Outcome) (U : State) : Prop := ∃ v L, o = .returned v ∧ Q v U.heap L ∧ FrameEnd s o U L C S
/-- a body's contract -/
def Met (l : Launch) (Z : State) (y : MethodName) (bytes : ByteArray) (maxL : Nat) (ret : Option FieldType) (rm : Room) (ws : List Jvm.Cond) (as' : Array Value) (h0 : Heap) (Q : Option Value → Heap → List Loc → Prop) : Prop :=
  MetFree l y (head1 (Jvm.Cond.code y bytes maxL ret :: ws) rm) (fun a U => a = as' ∧ Z.Warmed39 U.vm ∧ U.heap = h0) (fun _ _ _ _ _ => True) (fun _ U o U' => ∃ v L, o = .returned v ∧ Q v U'.heap L ∧ FrameEnd U o U' L rm.cells rm.slots)
section Own
variable {p : Program} {l : Launch} {e : Env} {R : Room} {s : State} {m : MethodId} {args : Array Value} {below : List Frame} {meth : Method} {c : Code} {T : State} {locs : List Loc} {cells slots cells' slots' : Nat} {Z : State} {a0 : Array Value} {h : Heap} {P : Outcome → State → Prop} {pc pc' : Nat} {L L' : Array Slot} {S : List Value}
theorem met_of {y : MethodName} {bytes : ByteArray} {maxL : Nat} {ret : Option FieldType} {rm : Room} {ws : List Jvm.Cond} {as' : Array Value} {h0 : Heap} {Q : Option Value → Heap → List Loc → Prop} {L0 : Array Slot}
    (hpn : plainFor y = true) (hef : ∀ m, entryFrame m as' maxL = mkF m 0 L0 [])
    (body : ∀ (p : Program) (e : Env) (s : State) (m : MethodId) (below : List Frame) (meth : Method) (c : Code) (T : State), p.tables.exec = Jvm.exec → c.code = bytes → c.maxLocals = maxL → s.vm.findClass y.cls = some m.cls → meth.name = y.name → meth.sig.returnType = ret → meth.locks = false → Z.Warmed39 s.vm → Stand p l e rm s m as' below meth c T [] 0 0 → T.heap = h0 → Goes p.tables e below (Ends s Q rm.cells rm.slots) (T.setTop (mkF m 0 L0 []))) :
    Met l Z y bytes maxL ret rm ws as' h0 Q := by
  refine MetFree.of_bodySF hpn hisR ?_
  intro p e s m args below meth c s₁ Bd hml0 hP hK
  obtain ⟨rfl, hZ, hh⟩ := hP
  have e0 : s₁.heap = h0 := by rw [← hh, Bd.state]; rfl
  obtain ⟨s₂, o, h1, h2, h3, h4⟩ := body p e s m below meth c s₁ Bd.exec Bd.bytes hml0 (findClass_of_methodNamed Bd.named) (name_of_methodNamed Bd.named Bd.method).1 Bd.returns (BodyLoose.notSynchronized Bd) hZ (Stand.of_body Bd) e0
  exact ⟨s₂, o, castTop (hef m) h1, h2, h3, h4⟩
theorem o_cat {v : Value} (h : v.isRef = true) : v.category = 1 := by rcases ref_cases h with rfl | ⟨a, rfl⟩ <;> rfl
theorem o_nar {C : String} {v : Value} (h : v.isRef = true) : narrow (.object C) v = v := by rcases ref_cases h with rfl | ⟨a, rfl⟩ <;> rfl
theorem o_fit {C : String} {v : Value} (h : v.isRef = true) : fits (.object C) v = true := by rcases ref_cases h with rfl | ⟨a, rfl⟩ <;> rfl
theorem o_nar01 {z : Int32} (h : z = 0 ∨ z = 1) : narrow .boolean (.int z) = .int z := by rcases h with rfl | rfl <;> rfl
theorem o_fit01 {z : Int32} (h : z = 0 ∨ z = 1) : fits .boolean (.int z) = true := by rcases h with rfl | rfl <;> rfl
theorem o_ret (X : Stand p l e R s m args below meth c T locs cells slots) (hx : p.tables.exec = Jvm.exec) (hlk : meth.locks = false) {w : Value} {t : FieldType} {i : Instr} {Q : Option Value → Heap → List Loc → Prop} {C Sl : Nat} (hret : meth.sig.returnType = some t) (hn : narrow t w = w)
    (hi : (i = .ireturn ∧ (t = .int ∨ t = .boolean ∨ t = .byte ∨ t = .char ∨ t = .short) ∧ ∃ z, w = .int z) ∨ (i = .lreturn ∧ t = .long ∧ ∃ z, w = .long z) ∨ (i = .dreturn ∧ t = .double ∧ ∃ z, w = .double z) ∨ (i = .freturn ∧ t = .float ∧ ∃ z, w = .float z) ∨ (i = .areturn ∧ t.isReference = true ∧ w.isRef = true))
    (hd : decode c.code pc = .ok (i, 1)) (hC : cells ≤ C) (hS : slots ≤ Sl) (eT : T.heap = h) (hq : Q (some w) h locs) : Goes p.tables e below (Ends s Q C Sl) (T.setTop (mkF m pc L (w :: S))) := by
  subst eT
  obtain ⟨fs, hr, hrun, hended, hW, hsame⟩ := X.leave (v := some w) (fun h => by rw [hret] at h; cases h) hlk
  exact ⟨_, _, retOut X hx hret hn hi hd hr, hrun, hended, _, _, rfl, hq, ⟨_, rfl⟩, hW, hsame.mono hC hS⟩
theorem o_retV (X : Stand p l e R s m args below meth c T locs cells slots) (hx : p.tables.exec = Jvm.exec) (hlk : meth.locks = false) {Q : Option Value → Heap → List Loc → Prop} {C Sl : Nat} (hret : meth.sig.returnType = none) (hd : decode c.code pc = .ok (.return_, 1)) (hC : cells ≤ C) (hS : slots ≤ Sl) (eT : T.heap = h) (hq : Q none h locs) :
    Goes p.tables e below (Ends s Q C Sl) (T.setTop (mkF m pc L [])) := by
  subst eT
  obtain ⟨fs, hr, hrun, hended, hW, hsame⟩ := X.leave (v := none) (fun _ => rfl) hlk
  exact ⟨_, _, X.returnOut hx hret hd hr, hrun, hended, _, _, rfl, hq, ⟨_, rfl⟩, hW, hsame.mono hC hS⟩
theorem o_iloadN (X : Stand p l e R s m args below meth c T locs cells slots) (hx : p.tables.exec = Jvm.exec) {k : Fin 4} {v : Int32} (hd : decode c.code pc = .ok (.iload_n k, 1)) (hl : L[k.val]? = some (.val (.int v))) (hp : pc + 1 = pc') (kk : Goes p.tables e below P (T.setTop (mkF m pc' L (.int v :: S)))) : Goes p.tables e below P (T.setTop (mkF m pc L S)) := by
  subst hp; exact kk.on fun _ k => XS.iloadN X.here hx rfl hd hl k
theorem o_iload (X : Stand p l e R s m args below meth c T locs cells slots) (hx : p.tables.exec = Jvm.exec) {k : Nat} {v : Int32} (hd : decode c.code pc = .ok (.iload k, 2)) (hl : L[k]? = some (.val (.int v))) (hp : pc + 2 = pc') (kk : Goes p.tables e below P (T.setTop (mkF m pc' L (.int v :: S)))) : Goes p.tables e below P (T.setTop (mkF m pc L S)) := by
  subst hp; exact kk.on fun _ k => XS.iload X.here hx rfl hd hl k
theorem o_istoreN (X : Stand p l e R s m args below meth c T locs cells slots) (hx : p.tables.exec = Jvm.exec) {k : Fin 4} {x : Int32} (hd : decode c.code pc = .ok (.istore_n k, 1)) (hl : storeLocals L k.val (.int x) = some L') (hp : pc + 1 = pc') (kk : Goes p.tables e below P (T.setTop (mkF m pc' L' S))) : Goes p.tables e below P (T.setTop (mkF m pc L (.int x :: S))) := by
  subst hp; exact kk.on fun _ k => XS.istoreN X.here hx rfl hd rfl hl k
theorem o_istore (X : Stand p l e R s m args below meth c T locs cells slots) (hx : p.tables.exec = Jvm.exec) {k : Nat} {x : Int32} (hd : decode c.code pc = .ok (.istore k, 2)) (hl : storeLocals L k (.int x) = some L') (hp : pc + 2 = pc') (kk : Goes p.tables e below P (T.setTop (mkF m pc' L' S))) : Goes p.tables e below P (T.setTop (mkF m pc L (.int x :: S))) := by
  subst hp; exact kk.on fun _ k => XS.istore X.here hx rfl hd rfl hl k
theorem o_lloadN (X : Stand p l e R s m args below meth c T locs cells slots) (hx : p.tables.exec = Jvm.exec) {k : Fin 4} {v : Int64} (hd : decode c.code pc = .ok (.lload_n k, 1)) (hl : L[k.val]? = some (.val (.long v))) (hp : pc + 1 = pc') (kk : Goes p.tables e below P (T.setTop (mkF m pc' L (.long v :: S)))) : Goes p.tables e below P (T.setTop (mkF m pc L S)) := by
  subst hp; exact kk.on fun _ k => XS.lloadN X.here hx rfl hd hl k
theorem o_lload (X : Stand p l e R s m args below meth c T locs cells slots) (hx : p.tables.exec = Jvm.exec) {k : Nat} {v : Int64} (hd : decode c.code pc = .ok (.lload k, 2)) (hl : L[k]? = some (.val (.long v))) (hp : pc + 2 = pc') (kk : Goes p.tables e below P (T.setTop (mkF m pc' L (.long v :: S)))) : Goes p.tables e below P (T.setTop (mkF m pc L S)) := by
  subst hp; exact kk.on fun _ k => XS.lload X.here hx rfl hd hl k
theorem o_lstoreN (X : Stand p l e R s m args below meth c T locs cells slots) (hx : p.tables.exec = Jvm.exec) {k : Fin 4} {x : Int64} (hd : decode c.code pc = .ok (.lstore_n k, 1)) (hl : storeLocals L k.val (.long x) = some L') (hp : pc + 1 = pc') (kk : Goes p.tables e below P (T.setTop (mkF m pc' L' S))) : Goes p.tables e below P (T.setTop (mkF m pc L (.long x :: S))) := by
  subst hp; exact kk.on fun _ k => XS.lstoreN X.here hx rfl hd rfl hl k
theorem o_lstore (X : Stand p l e R s m args below meth c T locs cells slots) (hx : p.tables.exec = Jvm.exec) {k : Nat} {x : Int64} (hd : decode c.code pc = .ok (.lstore k, 2)) (hl : storeLocals L k (.long x) = some L') (hp : pc + 2 = pc') (kk : Goes p.tables e below P (T.setTop (mkF m pc' L' S))) : Goes p.tables e below P (T.setTop (mkF m pc L (.long x :: S))) := by
  subst hp; exact kk.on fun _ k => XS.lstore X.here hx rfl hd rfl hl k
theorem o_aloadN (X : Stand p l e R s m args below meth c T locs cells slots) (hx : p.tables.exec = Jvm.exec) {k : Fin 4} {v : Value} (hd : decode c.code pc = .ok (.aload_n k, 1)) (hl : L[k.val]? = some (.val v)) (hv : v.isRef = true) (hp : pc + 1 = pc') (kk : Goes p.tables e below P (T.setTop (mkF m pc' L (v :: S)))) : Goes p.tables e below P (T.setTop (mkF m pc L S)) := by
  subst hp; exact kk.on fun _ k => XS.aloadN X.here hx rfl hd hl hv k
theorem o_aload (X : Stand p l e R s m args below meth c T locs cells slots) (hx : p.tables.exec = Jvm.exec) {k : Nat} {v : Value} (hd : decode c.code pc = .ok (.aload k, 2)) (hl : L[k]? = some (.val v)) (hv : v.isRef = true) (hp : pc + 2 = pc') (kk : Goes p.tables e below P (T.setTop (mkF m pc' L (v :: S)))) : Goes p.tables e below P (T.setTop (mkF m pc L S)) := by
  subst hp; exact kk.on fun _ k => XS.aload X.here hx rfl hd hl hv k
theorem o_astoreN (X : Stand p l e R s m args below meth c T locs cells slots) (hx : p.tables.exec = Jvm.exec) {k : Fin 4} {x : Value} (hd : decode c.code pc = .ok (.astore_n k, 1)) (hv : x.isRef = true) (hl : storeLocals L k.val x = some L') (hp : pc + 1 = pc') (kk : Goes p.tables e below P (T.setTop (mkF m pc' L' S))) : Goes p.tables e below P (T.setTop (mkF m pc L (x :: S))) := by
  subst hp; exact kk.on fun _ k => XS.astoreN X.here hx rfl hd rfl hv hl k
theorem o_astore (X : Stand p l e R s m args below meth c T locs cells slots) (hx : p.tables.exec = Jvm.exec) {k : Nat} {x : Value} (hd : decode c.code pc = .ok (.astore k, 2)) (hv : x.isRef = true) (hl : storeLocals L k x = some L') (hp : pc + 2 = pc') (kk : Goes p.tables e below P (T.setTop (mkF m pc' L' S))) : Goes p.tables e below P (T.setTop (mkF m pc L (x :: S))) := by
  subst hp; exact kk.on fun _ k => XS.astore X.here hx rfl hd rfl hv hl k
theorem o_iconst (X : Stand p l e R s m args below meth c T locs cells slots) (hx : p.tables.exec = Jvm.exec) {i : Int} {v : Int32} (hd : decode c.code pc = .ok (.iconst i, 1)) (hv : Int32.ofInt i = v) (hp : pc + 1 = pc') (kk : Goes p.tables e below P (T.setTop (mkF m pc' L (.int v :: S)))) : Goes p.tables e below P (T.setTop (mkF m pc L S)) := by
  subst hp; subst hv; exact kk.on fun _ k => XS.iconst X.here hx rfl hd  k
theorem o_bipush (X : Stand p l e R s m args below meth c T locs cells slots) (hx : p.tables.exec = Jvm.exec) {i : Int} {v : Int32} (hd : decode c.code pc = .ok (.bipush i, 2)) (hv : (Int8.ofInt i).toInt32 = v) (hp : pc + 2 = pc') (kk : Goes p.tables e below P (T.setTop (mkF m pc' L (.int v :: S)))) : Goes p.tables e below P (T.setTop (mkF m pc L S)) := by
  subst hp; subst hv; exact kk.on fun _ k => XS.bipush X.here hx rfl hd  k
theorem o_sipush (X : Stand p l e R s m args below meth c T locs cells slots) (hx : p.tables.exec = Jvm.exec) {i : Int} {v : Int32} (hd : decode c.code pc = .ok (.sipush i, 3)) (hv : (Int16.ofInt i).toInt32 = v) (hp : pc + 3 = pc') (kk : Goes p.tables e below P (T.setTop (mkF m pc' L (.int v :: S)))) : Goes p.tables e below P (T.setTop (mkF m pc L S)) := by
  subst hp; subst hv; exact kk.on fun _ k => XS.sipush X.here hx rfl hd  k
theorem o_lconst (X : Stand p l e R s m args below meth c T locs cells slots) (hx : p.tables.exec = Jvm.exec) {k : Fin 2} {v : Int64} (hd : decode c.code pc = .ok (.lconst k, 1)) (hv : Int64.ofNat k = v) (hp : pc + 1 = pc') (kk : Goes p.tables e below P (T.setTop (mkF m pc' L (.long v :: S)))) : Goes p.tables e below P (T.setTop (mkF m pc L S)) := by
  subst hp; subst hv; exact kk.on fun _ k => XS.lconst X.here hx rfl hd  k
theorem o_aconstNull (X : Stand p l e R s m args below meth c T locs cells slots) (hx : p.tables.exec = Jvm.exec)  (hd : decode c.code pc = .ok (.aconst_null, 1)) (hp : pc + 1 = pc') (kk : Goes p.tables e below P (T.setTop (mkF m pc' L (.null :: S)))) : Goes p.tables e below P (T.setTop (mkF m pc L S)) := by
  subst hp; exact kk.on fun _ k => XS.aconstNull X.here hx rfl hd  k
theorem o_iadd (X : Stand p l e R s m args below meth c T locs cells slots) (hx : p.tables.exec = Jvm.exec) {x y : Int32} (hd : decode c.code pc = .ok (.iadd, 1)) (hp : pc + 1 = pc') (kk : Goes p.tables e below P (T.setTop (mkF m pc' L (.int (x + y) :: S)))) : Goes p.tables e below P (T.setTop (mkF m pc L (.int y :: .int x :: S))) := by
  subst hp; exact kk.on fun _ k => XS.iadd X.here hx rfl hd rfl k
theorem o_isub (X : Stand p l e R s m args below meth c T locs cells slots) (hx : p.tables.exec = Jvm.exec) {x y : Int32} (hd : decode c.code pc = .ok (.isub, 1)) (hp : pc + 1 = pc') (kk : Goes p.tables e below P (T.setTop (mkF m pc' L (.int (x - y) :: S)))) : Goes p.tables e below P (T.setTop (mkF m pc L (.int y :: .int x :: S))) := by
  subst hp; exact kk.on fun _ k => XS.isub X.here hx rfl hd rfl k
theorem o_imul (X : Stand p l e R s m args below meth c T locs cells slots) (hx : p.tables.exec = Jvm.exec) {x y : Int32} (hd : decode c.code pc = .ok (.imul, 1)) (hp : pc + 1 = pc') (kk : Goes p.tables e below P (T.setTop (mkF m pc' L (.int (x * y) :: S)))) : Goes p.tables e below P (T.setTop (mkF m pc L (.int y :: .int x :: S))) := by
  subst hp; exact kk.on fun _ k => XS.imul X.here hx rfl hd rfl k
theorem o_iand (X : Stand p l e R s m args below meth c T locs cells slots) (hx : p.tables.exec = Jvm.exec) {x y : Int32} (hd : decode c.code pc = .ok (.iand, 1)) (hp : pc + 1 = pc') (kk : Goes p.tables e below P (T.setTop (mkF m pc' L (.int (x &&& y) :: S)))) : Goes p.tables e below P (T.setTop (mkF m pc L (.int y :: .int x :: S))) := by
  subst hp; exact kk.on fun _ k => XS.iand X.here hx rfl hd rfl k
theorem o_ior (X : Stand p l e R s m args below meth c T locs cells slots) (hx : p.tables.exec = Jvm.exec) {x y : Int32} (hd : decode c.code pc = .ok (.ior, 1)) (hp : pc + 1 = pc') (kk : Goes p.tables e below P (T.setTop (mkF m pc' L (.int (x ||| y) :: S)))) : Goes p.tables e below P (T.setTop (mkF m pc L (.int y :: .int x :: S))) := by
  subst hp; exact kk.on fun _ k => XS.ior X.here hx rfl hd rfl k
theorem o_ixor (X : Stand p l e R s m args below meth c T locs cells slots) (hx : p.tables.exec = Jvm.exec) {x y : Int32} (hd : decode c.code pc = .ok (.ixor, 1)) (hp : pc + 1 = pc') (kk : Goes p.tables e below P (T.setTop (mkF m pc' L (.int (x ^^^ y) :: S)))) : Goes p.tables e below P (T.setTop (mkF m pc L (.int y :: .int x :: S))) := by
  subst hp; exact kk.on fun _ k => XS.ixor X.here hx rfl hd rfl k
theorem o_ishl (X : Stand p l e R s m args below meth c T locs cells slots) (hx : p.tables.exec = Jvm.exec) {x y : Int32} (hd : decode c.code pc = .ok (.ishl, 1)) (hp : pc + 1 = pc') (kk : Goes p.tables e below P (T.setTop (mkF m pc' L (.int (x <<< (y &&& 31)) :: S)))) : Goes p.tables e below P (T.setTop (mkF m pc L (.int y :: .int x :: S))) := by
  subst hp; exact kk.on fun _ k => XS.ishl X.here hx rfl hd rfl k
theorem o_ishr (X : Stand p l e R s m args below meth c T locs cells slots) (hx : p.tables.exec = Jvm.exec) {x y : Int32} (hd : decode c.code pc = .ok (.ishr, 1)) (hp : pc + 1 = pc') (kk : Goes p.tables e below P (T.setTop (mkF m pc' L (.int (x >>> (y &&& 31)) :: S)))) : Goes p.tables e below P (T.setTop (mkF m pc L (.int y :: .int x :: S))) := by
  subst hp; exact kk.on fun _ k => XS.ishr X.here hx rfl hd rfl k
theorem o_iushr (X : Stand p l e R s m args below meth c T locs cells slots) (hx : p.tables.exec = Jvm.exec) {x y : Int32} (hd : decode c.code pc = .ok (.iushr, 1)) (hp : pc + 1 = pc') (kk : Goes p.tables e below P (T.setTop (mkF m pc' L (.int ((x.toUInt32 >>> (y &&& 31).toUInt32).toInt32) :: S)))) : Goes p.tables e below P (T.setTop (mkF m pc L (.int y :: .int x :: S))) := by
  subst hp; exact kk.on fun _ k => XS.iushr X.here hx rfl hd rfl k
theorem o_ladd (X : Stand p l e R s m args below meth c T locs cells slots) (hx : p.tables.exec = Jvm.exec) {x y : Int64} (hd : decode c.code pc = .ok (.ladd, 1)) (hp : pc + 1 = pc') (kk : Goes p.tables e below P (T.setTop (mkF m pc' L (.long (x + y) :: S)))) : Goes p.tables e below P (T.setTop (mkF m pc L (.long y :: .long x :: S))) := by
  subst hp; exact kk.on fun _ k => XS.ladd X.here hx rfl hd rfl k
theorem o_lsub (X : Stand p l e R s m args below meth c T locs cells slots) (hx : p.tables.exec = Jvm.exec) {x y : Int64} (hd : decode c.code pc = .ok (.lsub, 1)) (hp : pc + 1 = pc') (kk : Goes p.tables e below P (T.setTop (mkF m pc' L (.long (x - y) :: S)))) : Goes p.tables e below P (T.setTop (mkF m pc L (.long y :: .long x :: S))) := by
  subst hp; exact kk.on fun _ k => XS.lsub X.here hx rfl hd rfl k
theorem o_lmul (X : Stand p l e R s m args below meth c T locs cells slots) (hx : p.tables.exec = Jvm.exec) {x y : Int64} (hd : decode c.code pc = .ok (.lmul, 1)) (hp : pc + 1 = pc') (kk : Goes p.tables e below P (T.setTop (mkF m pc' L (.long (x * y) :: S)))) : Goes p.tables e below P (T.setTop (mkF m pc L (.long y :: .long x :: S))) := by
  subst hp; exact kk.on fun _ k => XS.lmul X.here hx rfl hd rfl k
theorem o_land (X : Stand p l e R s m args below meth c T locs cells slots) (hx : p.tables.exec = Jvm.exec) {x y : Int64} (hd : decode c.code pc = .ok (.land, 1)) (hp : pc + 1 = pc') (kk : Goes p.tables e below P (T.setTop (mkF m pc' L (.long (x &&& y) :: S)))) : Goes p.tables e below P (T.setTop (mkF m pc L (.long y :: .long x :: S))) := by
  subst hp; exact kk.on fun _ k => XS.land X.here hx rfl hd rfl k
theorem o_lor (X : Stand p l e R s m args below meth c T locs cells slots) (hx : p.tables.exec = Jvm.exec) {x y : Int64} (hd : decode c.code pc = .ok (.lor, 1)) (hp : pc + 1 = pc') (kk : Goes p.tables e below P (T.setTop (mkF m pc' L (.long (x ||| y) :: S)))) : Goes p.tables e below P (T.setTop (mkF m pc L (.long y :: .long x :: S))) := by
  subst hp; exact kk.on fun _ k => XS.lor X.here hx rfl hd rfl k
theorem o_lxor (X : Stand p l e R s m args below meth c T locs cells slots) (hx : p.tables.exec = Jvm.exec) {x y : Int64} (hd : decode c.code pc = .ok (.lxor, 1)) (hp : pc + 1 = pc') (kk : Goes p.tables e below P (T.setTop (mkF m pc' L (.long (x ^^^ y) :: S)))) : Goes p.tables e below P (T.setTop (mkF m pc L (.long y :: .long x :: S))) := by
  subst hp; exact kk.on fun _ k => XS.lxor X.here hx rfl hd rfl k
theorem o_lshl (X : Stand p l e R s m args below meth c T locs cells slots) (hx : p.tables.exec = Jvm.exec) {x : Int64} {y : Int32} (hd : decode c.code pc = .ok (.lshl, 1)) (hp : pc + 1 = pc') (kk : Goes p.tables e below P (T.setTop (mkF m pc' L (.long (x <<< (y &&& 0x3f).toInt64) :: S)))) : Goes p.tables e below P (T.setTop (mkF m pc L (.int y :: .long x :: S))) := by
  subst hp; exact kk.on fun _ k => XS.lshl X.here hx rfl hd rfl k
theorem o_lshr (X : Stand p l e R s m args below meth c T locs cells slots) (hx : p.tables.exec = Jvm.exec) {x : Int64} {y : Int32} (hd : decode c.code pc = .ok (.lshr, 1)) (hp : pc + 1 = pc') (kk : Goes p.tables e below P (T.setTop (mkF m pc' L (.long (x >>> (y &&& 0x3f).toInt64) :: S)))) : Goes p.tables e below P (T.setTop (mkF m pc L (.int y :: .long x :: S))) := by
  subst hp; exact kk.on fun _ k => XS.lshr X.here hx rfl hd rfl k
theorem o_lushr (X : Stand p l e R s m args below meth c T locs cells slots) (hx : p.tables.exec = Jvm.exec) {x : Int64} {y : Int32} (hd : decode c.code pc = .ok (.lushr, 1)) (hp : pc + 1 = pc') (kk : Goes p.tables e below P (T.setTop (mkF m pc' L (.long ((x.toUInt64 >>> (y &&& 0x3f).toInt64.toUInt64).toInt64) :: S)))) : Goes p.tables e below P (T.setTop (mkF m pc L (.int y :: .long x :: S))) := by
  subst hp; exact kk.on fun _ k => XS.lushr X.here hx rfl hd rfl k
theorem o_idiv (X : Stand p l e R s m args below meth c T locs cells slots) (hx : p.tables.exec = Jvm.exec) {x y : Int32} (hd : decode c.code pc = .ok (.idiv, 1)) (hy : y ≠ 0) (hp : pc + 1 = pc') (kk : Goes p.tables e below P (T.setTop (mkF m pc' L (.int (x / y) :: S)))) : Goes p.tables e below P (T.setTop (mkF m pc L (.int y :: .int x :: S))) := by
  subst hp; exact kk.on fun _ k => XS.idiv X.here hx rfl hd rfl hy k
theorem o_ldiv (X : Stand p l e R s m args below meth c T locs cells slots) (hx : p.tables.exec = Jvm.exec) {x y : Int64} (hd : decode c.code pc = .ok (.ldiv, 1)) (hy : y ≠ 0) (hp : pc + 1 = pc') (kk : Goes p.tables e below P (T.setTop (mkF m pc' L (.long (x / y) :: S)))) : Goes p.tables e below P (T.setTop (mkF m pc L (.long y :: .long x :: S))) := by
  subst hp; exact kk.on fun _ k => XS.ldiv X.here hx rfl hd rfl hy k
theorem o_lrem (X : Stand p l e R s m args below meth c T locs cells slots) (hx : p.tables.exec = Jvm.exec) {x y : Int64} (hd : decode c.code pc = .ok (.lrem, 1)) (hy : y ≠ 0) (hp : pc + 1 = pc') (kk : Goes p.tables e below P (T.setTop (mkF m pc' L (.long (x - (x / y) * y) :: S)))) : Goes p.tables e below P (T.setTop (mkF m pc L (.long y :: .long x :: S))) := by
  subst hp; exact kk.on fun _ k => XS.lrem X.here hx rfl hd rfl hy k
theorem o_irem (X : Stand p l e R s m args below meth c T locs cells slots) (hx : p.tables.exec = Jvm.exec) {x y : Int32} (hd : decode c.code pc = .ok (.irem, 1)) (hy : y ≠ 0) (hp : pc + 1 = pc') (kk : Goes p.tables e below P (T.setTop (mkF m pc' L (.int (x % y) :: S)))) : Goes p.tables e below P (T.setTop (mkF m pc L (.int y :: .int x :: S))) := by
  subst hp; exact kk.on fun _ k => iremM X hx rfl hd rfl hy k
theorem o_i2l (X : Stand p l e R s m args below meth c T locs cells slots) (hx : p.tables.exec = Jvm.exec) {x : Int32} (hd : decode c.code pc = .ok (.i2l, 1)) (hp : pc + 1 = pc') (kk : Goes p.tables e below P (T.setTop (mkF m pc' L (.long (x.toInt64) :: S)))) : Goes p.tables e below P (T.setTop (mkF m pc L (.int x :: S))) := by
  subst hp; exact kk.on fun _ k => XS.i2l X.here hx rfl hd rfl k
theorem o_l2i (X : Stand p l e R s m args below meth c T locs cells slots) (hx : p.tables.exec = Jvm.exec) {x : Int64} (hd : decode c.code pc = .ok (.l2i, 1)) (hp : pc + 1 = pc') (kk : Goes p.tables e below P (T.setTop (mkF m pc' L (.int (x.toInt32) :: S)))) : Goes p.tables e below P (T.setTop (mkF m pc L (.long x :: S))) := by
  subst hp; exact kk.on fun _ k => XS.l2i X.here hx rfl hd rfl k
theorem o_i2b (X : Stand p l e R s m args below meth c T locs cells slots) (hx : p.tables.exec = Jvm.exec) {x : Int32} (hd : decode c.code pc = .ok (.i2b, 1)) (hp : pc + 1 = pc') (kk : Goes p.tables e below P (T.setTop (mkF m pc' L (.int (x.toInt8.toInt32) :: S)))) : Goes p.tables e below P (T.setTop (mkF m pc L (.int x :: S))) := by
  subst hp; exact kk.on fun _ k => XS.i2b X.here hx rfl hd rfl k
theorem o_i2s (X : Stand p l e R s m args below meth c T locs cells slots) (hx : p.tables.exec = Jvm.exec) {x : Int32} (hd : decode c.code pc = .ok (.i2s, 1)) (hp : pc + 1 = pc') (kk : Goes p.tables e below P (T.setTop (mkF m pc' L (.int (x.toInt16.toInt32) :: S)))) : Goes p.tables e below P (T.setTop (mkF m pc L (.int x :: S))) := by
  subst hp; exact kk.on fun _ k => XS.i2s X.here hx rfl hd rfl k
theorem o_i2c (X : Stand p l e R s m args below meth c T locs cells slots) (hx : p.tables.exec = Jvm.exec) {x : Int32} (hd : decode c.code pc = .ok (.i2c, 1)) (hp : pc + 1 = pc') (kk : Goes p.tables e below P (T.setTop (mkF m pc' L (.int (x.toUInt32.toUInt16.toUInt32.toInt32) :: S)))) : Goes p.tables e below P (T.setTop (mkF m pc L (.int x :: S))) := by
  subst hp; exact kk.on fun _ k => XS.i2c X.here hx rfl hd rfl k
theorem o_ineg (X : Stand p l e R s m args below meth c T locs cells slots) (hx : p.tables.exec = Jvm.exec) {x : Int32} (hd : decode c.code pc = .ok (.ineg, 1)) (hp : pc + 1 = pc') (kk : Goes p.tables e below P (T.setTop (mkF m pc' L (.int (-x) :: S)))) : Goes p.tables e below P (T.setTop (mkF m pc L (.int x :: S))) := by
  subst hp; exact kk.on fun _ k => XS.ineg X.here hx rfl hd rfl k
theorem o_lneg (X : Stand p l e R s m args below meth c T locs cells slots) (hx : p.tables.exec = Jvm.exec) {x : Int64} (hd : decode c.code pc = .ok (.lneg, 1)) (hp : pc + 1 = pc') (kk : Goes p.tables e below P (T.setTop (mkF m pc' L (.long (-x) :: S)))) : Goes p.tables e below P (T.setTop (mkF m pc L (.long x :: S))) := by
  subst hp; exact kk.on fun _ k => XS.lneg X.here hx rfl hd rfl k
theorem o_lcmp (X : Stand p l e R s m args below meth c T locs cells slots) (hx : p.tables.exec = Jvm.exec) {x y : Int64} (hd : decode c.code pc = .ok (.lcmp, 1)) (hp : pc + 1 = pc') (kk : Goes p.tables e below P (T.setTop (mkF m pc' L (.int (lcmpW x y) :: S)))) : Goes p.tables e below P (T.setTop (mkF m pc L (.long y :: .long x :: S))) := by
  subst hp; exact kk.on fun _ k => XS.lcmp X.here hx rfl hd rfl k
theorem o_dup (X : Stand p l e R s m args below meth c T locs cells slots) (hx : p.tables.exec = Jvm.exec) {x : Value} (hd : decode c.code pc = .ok (.dup, 1)) (hc : x.category = 1) (hp : pc + 1 = pc') (kk : Goes p.tables e below P (T.setTop (mkF m pc' L (x :: x :: S)))) : Goes p.tables e below P (T.setTop (mkF m pc L (x :: S))) := by
  subst hp; exact kk.on fun _ k => XS.dup X.here hx rfl hd rfl hc k
theorem o_pop (X : Stand p l e R s m args below meth c T locs cells slots) (hx : p.tables.exec = Jvm.exec) {x : Value} (hd : decode c.code pc = .ok (.pop, 1)) (hc : x.category = 1) (hp : pc + 1 = pc') (kk : Goes p.tables e below P (T.setTop (mkF m pc' L S))) : Goes p.tables e below P (T.setTop (mkF m pc L (x :: S))) := by
  subst hp; exact kk.on fun _ k => XS.pop X.here hx rfl hd rfl hc k
theorem o_dup2 (X : Stand p l e R s m args below meth c T locs cells slots) (hx : p.tables.exec = Jvm.exec) {x y : Value} (hd : decode c.code pc = .ok (.dup2, 1)) (hc : x.category = 1) (hc2 : y.category = 1) (hp : pc + 1 = pc') (kk : Goes p.tables e below P (T.setTop (mkF m pc' L (x :: y :: x :: y :: S)))) : Goes p.tables e below P (T.setTop (mkF m pc L (x :: y :: S))) := by
  subst hp; exact kk.on fun _ k => Jvm.Free.XT.dup2 X.here hx rfl hd rfl hc hc2 k
theorem o_dupX1 (X : Stand p l e R s m args below meth c T locs cells slots) (hx : p.tables.exec = Jvm.exec) {x y : Value} (hd : decode c.code pc = .ok (.dup_x1, 1)) (hc : x.category = 1) (hc2 : y.category = 1) (hp : pc + 1 = pc') (kk : Goes p.tables e below P (T.setTop (mkF m pc' L (x :: y :: x :: S)))) : Goes p.tables e below P (T.setTop (mkF m pc L (x :: y :: S))) := by
  subst hp; exact kk.on fun _ k => XS.dupX1 X.here hx rfl hd rfl hc hc2 k
theorem o_iinc (X : Stand p l e R s m args below meth c T locs cells slots) (hx : p.tables.exec = Jvm.exec) {k : Nat} {cst : Int} {x v : Int32} (hd : decode c.code pc = .ok (.iinc k cst, 3)) (hl : L[k]? = some (.val (.int x))) (hv : x + Int32.ofInt cst = v) (hl' : storeLocals L k (.int v) = some L') (hp : pc + 3 = pc') (kk : Goes p.tables e below P (T.setTop (mkF m pc' L' S))) : Goes p.tables e below P (T.setTop (mkF m pc L S)) := by
  subst hp; subst hv; exact kk.on fun _ k => XS.iinc X.here hx rfl hd hl hl' k
theorem o_goto (X : Stand p l e R s m args below meth c T locs cells slots) (hx : p.tables.exec = Jvm.exec)  {o : Int} (hd : decode c.code pc = .ok (.goto o, 3)) (ho : 0 ≤ (pc : Int) + o) (hp : ((pc : Int) + o).toNat = pc') (kk : Goes p.tables e below P (T.setTop (mkF m pc' L S))) : Goes p.tables e below P (T.setTop (mkF m pc L S)) :=
  kk.on fun _ k => XS.goto X.here hx rfl (pc0 := pc) rfl hd  ho hp k
theorem o_ifYes (X : Stand p l e R s m args below meth c T locs cells slots) (hx : p.tables.exec = Jvm.exec) {cd : ClassFile.Cond} {x : Int32} {o : Int} (hd : decode c.code pc = .ok (.ifCond cd o, 3)) (hc : ifCond.holds cd x = true) (ho : 0 ≤ (pc : Int) + o) (hp : ((pc : Int) + o).toNat = pc') (kk : Goes p.tables e below P (T.setTop (mkF m pc' L S))) : Goes p.tables e below P (T.setTop (mkF m pc L (.int x :: S))) :=
  kk.on fun _ k => XS.ifYes X.here hx rfl (pc0 := pc) rfl hd rfl hc ho hp k
theorem o_icmpYes (X : Stand p l e R s m args below meth c T locs cells slots) (hx : p.tables.exec = Jvm.exec) {cd : ClassFile.Cond} {x y : Int32} {o : Int} (hd : decode c.code pc = .ok (.if_icmp cd o, 3)) (hc : if_icmp.holds cd x y = true) (ho : 0 ≤ (pc : Int) + o) (hp : ((pc : Int) + o).toNat = pc') (kk : Goes p.tables e below P (T.setTop (mkF m pc' L S))) : Goes p.tables e below P (T.setTop (mkF m pc L (.int y :: .int x :: S))) :=
  kk.on fun _ k => XS.icmpYes X.here hx rfl (pc0 := pc) rfl hd rfl hc ho hp k
theorem o_ifnullYes (X : Stand p l e R s m args below meth c T locs cells slots) (hx : p.tables.exec = Jvm.exec)  {o : Int} (hd : decode c.code pc = .ok (.ifnull o, 3)) (ho : 0 ≤ (pc : Int) + o) (hp : ((pc : Int) + o).toNat = pc') (kk : Goes p.tables e below P (T.setTop (mkF m pc' L S))) : Goes p.tables e below P (T.setTop (mkF m pc L (.null :: S))) :=
  kk.on fun _ k => XS.ifnullYes X.here hx rfl (pc0 := pc) rfl hd rfl ho hp k
theorem o_ifnonnullYes (X : Stand p l e R s m args below meth c T locs cells slots) (hx : p.tables.exec = Jvm.exec) {b : Addr} {o : Int} (hd : decode c.code pc = .ok (.ifnonnull o, 3)) (ho : 0 ≤ (pc : Int) + o) (hp : ((pc : Int) + o).toNat = pc') (kk : Goes p.tables e below P (T.setTop (mkF m pc' L S))) : Goes p.tables e below P (T.setTop (mkF m pc L (.ref b :: S))) :=
  kk.on fun _ k => XS.ifnonnullYes X.here hx rfl (pc0 := pc) rfl hd rfl ho hp k
theorem o_ifNo (X : Stand p l e R s m args below meth c T locs cells slots) (hx : p.tables.exec = Jvm.exec) {cd : ClassFile.Cond} {o : Int} {x : Int32} (hd : decode c.code pc = .ok (.ifCond cd o, 3)) (hc : ifCond.holds cd x = false) (hp : pc + 3 = pc') (kk : Goes p.tables e below P (T.setTop (mkF m pc' L S))) : Goes p.tables e below P (T.setTop (mkF m pc L (.int x :: S))) := by
  subst hp; exact kk.on fun _ k => XS.ifNo X.here hx rfl hd rfl hc k
theorem o_icmpNo (X : Stand p l e R s m args below meth c T locs cells slots) (hx : p.tables.exec = Jvm.exec) {cd : ClassFile.Cond} {o : Int} {x y : Int32} (hd : decode c.code pc = .ok (.if_icmp cd o, 3)) (hc : if_icmp.holds cd x y = false) (hp : pc + 3 = pc') (kk : Goes p.tables e below P (T.setTop (mkF m pc' L S))) : Goes p.tables e below P (T.setTop (mkF m pc L (.int y :: .int x :: S))) := by
  subst hp; exact kk.on fun _ k => XS.icmpNo X.here hx rfl hd rfl hc k
theorem o_ifnullNo (X : Stand p l e R s m args below meth c T locs cells slots) (hx : p.tables.exec = Jvm.exec) {o : Int} {b : Addr} (hd : decode c.code pc = .ok (.ifnull o, 3)) (hp : pc + 3 = pc') (kk : Goes p.tables e below P (T.setTop (mkF m pc' L S))) : Goes p.tables e below P (T.setTop (mkF m pc L (.ref b :: S))) := by
  subst hp; exact kk.on fun _ k => XS.ifnullNo X.here hx rfl hd rfl k
theorem o_ifnonnullNo (X : Stand p l e R s m args below meth c T locs cells slots) (hx : p.tables.exec = Jvm.exec) {o : Int} (hd : decode c.code pc = .ok (.ifnonnull o, 3)) (hp : pc + 3 = pc') (kk : Goes p.tables e below P (T.setTop (mkF m pc' L S))) : Goes p.tables e below P (T.setTop (mkF m pc L (.null :: S))) := by
  subst hp; exact kk.on fun _ k => XS.ifnonnullNo X.here hx rfl hd rfl k
theorem o_acmp (X : Stand p l e R s m args below meth c T locs cells slots) (hx : p.tables.exec = Jvm.exec) {cd : ACond} {x y : Value} {o : Int} {same : Bool} (hd : decode c.code pc = .ok (.if_acmp cd o, 3)) (h1 : x.isRef = true) (h2 : y.isRef = true) (hq : decide (x = y) = same) (ho : 0 ≤ (pc : Int) + o) (hp : pc' = if acV cd same = true then ((pc : Int) + o).toNat else pc + 3) (kk : Goes p.tables e below P (T.setTop (mkF m pc' L S))) : Goes p.tables e below P (T.setTop (mkF m pc L (y :: x :: S))) :=
  kk.on fun _ k => Jvm.RoadKit.acmp (g := mkF m pc L (y :: x :: S)) X hx rfl h1 h2 (pc0 := pc) (pc' := pc') (same := same) rfl hd rfl hq ho hp k
theorem o_tswIn (X : Stand p l e R s m args below meth c T locs cells slots) (hx : p.tables.exec = Jvm.exec) {dflt low high : Int} {offs : Array Int} {len : Nat} {o : Int} {i : Int32} (hd : decode c.code pc = .ok (.tableswitch dflt low high offs, len)) (hin : ¬ (i.toInt < low ∨ i.toInt > high)) (hoff : offs[(i.toInt - low).toNat]? = some o) (ho : 0 ≤ (pc : Int) + o) (hp : ((pc : Int) + o).toNat = pc') (kk : Goes p.tables e below P (T.setTop (mkF m pc' L S))) : Goes p.tables e below P (T.setTop (mkF m pc L (.int i :: S))) :=
  kk.on fun _ k => XS.tswIn X.here hx rfl (pc0 := pc) rfl hd rfl hin hoff ho hp k
theorem o_tswOut (X : Stand p l e R s m args below meth c T locs cells slots) (hx : p.tables.exec = Jvm.exec) {dflt low high : Int} {offs : Array Int} {len : Nat} {i : Int32} (hd : decode c.code pc = .ok (.tableswitch dflt low high offs, len)) (hout : i.toInt < low ∨ i.toInt > high) (ho : 0 ≤ (pc : Int) + dflt) (hp : ((pc : Int) + dflt).toNat = pc') (kk : Goes p.tables e below P (T.setTop (mkF m pc' L S))) : Goes p.tables e below P (T.setTop (mkF m pc L (.int i :: S))) :=
  kk.on fun _ k => XS.tswOut X.here hx rfl (pc0 := pc) rfl hd rfl hout ho hp k
theorem o_getF (X : Stand p l e R s m args below meth c T locs cells slots) (hx : p.tables.exec = Jvm.exec) (hZ : Z.Warmed39 s.vm) {own R0 O n d host : String} {index : Nat} (hown : s.vm.findClass own = some m.cls) (w : (Cond.fieldLink own index R0 n d).before a0 Z = true ∨ (Cond.fieldLinkNest own index R0 n d host).before a0 Z = true) (via : Via Z R0 O n d) (eT : T.heap = h) {a : Addr} {v : Value} (F : Fld Z h a O n d v) (hd : decode c.code pc = .ok (.getfield index, 3)) (hp : pc + 3 = pc')
    (kk : ∀ T', Stand p l e R s m args below meth c T' locs cells slots → T'.heap = h → Goes p.tables e below P (T'.setTop (mkF m pc' L (v :: S)))) : Goes p.tables e below P (T.setTop (mkF m pc L (.ref a :: S))) := by
  subst hp
  obtain ⟨T', X', e', st⟩ := getF X hx hZ hown w via eT F (g := mkF m pc L (.ref a :: S)) rfl rfl hd
  exact (kk T' X' e').on st
theorem o_getS (X : Stand p l e R s m args below meth c T locs cells slots) (hx : p.tables.exec = Jvm.exec) (hZ : Z.Warmed39 s.vm) {own R0 O n d host : String} {index : Nat} (hown : s.vm.findClass own = some m.cls) (w : (Cond.fieldLink own index R0 n d).before a0 Z = true ∨ (Cond.fieldLinkNest own index R0 n d host).before a0 Z = true) (via : Via Z R0 O n d) (eT : T.heap = h) {v : Value} (F : Sta Z h O n d v) (hd : decode c.code pc = .ok (.getstatic index, 3)) (hp : pc + 3 = pc')
    (kk : ∀ T', Stand p l e R s m args below meth c T' locs cells slots → T'.heap = h → Goes p.tables e below P (T'.setTop (mkF m pc' L (v :: S)))) : Goes p.tables e below P (T.setTop (mkF m pc L S)) := by
  subst hp
  obtain ⟨T', X', e', st⟩ := getS2 X hx hZ hown w via eT F (g := mkF m pc L S) rfl hd
  exact (kk T' X' e').on st
theorem o_putF (X : Stand p l e R s m args below meth c T locs cells slots) (hx : p.tables.exec = Jvm.exec) (hZ : Z.Warmed39 s.vm) {own R0 O n d host C : String} {index kk0 : Nat} {ty : FieldType} (hown : s.vm.findClass own = some m.cls) (w : (Cond.fieldLink own index R0 n d).before a0 Z = true ∨ (Cond.fieldLinkNest own index R0 n d host).before a0 Z = true) (via : Via Z R0 O n d) (eT : T.heap = h) {a : Addr} {v old : Value} (F : Fld Z h a O n d old) (E : Exa Z h a C) (Lw : (Cond.lays C O n d).before a0 Z = true ∨ ((Cond.laysFinal C O n d).before a0 Z = true ∧ own = O ∧ meth.name = "<init>")) (wi : (Cond.instantiable C kk0).before a0 Z = true)
    (hty : parseFieldDescriptor d = some ty) (hn : narrow ty v = v) (hf : fits ty v = true) (hd : decode c.code pc = .ok (.putfield index, 3)) (hp : pc + 3 = pc')
    (kk : ∀ T' h', Stand p l e R s m args below meth c T' (locs ++ [⟨a, Jvm.RoadKit.slotOf Z O n d⟩]) cells slots → T'.heap = h' → Wr h h' a (Jvm.RoadKit.slotOf Z O n d) v → Goes p.tables e below P (T'.setTop (mkF m pc' L S))) : Goes p.tables e below P (T.setTop (mkF m pc L (v :: .ref a :: S))) := by
  subst hp
  obtain ⟨T', h', X', e', W', st⟩ := putF X hx hZ hown w via eT F E Lw wi hty hn hf (g := mkF m pc L (v :: .ref a :: S)) rfl rfl hd
  exact (kk T' h' X' e' W').on st
theorem o_new (X : Stand p l e R s m args below meth c T locs cells slots) (hx : p.tables.exec = Jvm.exec) (hZ : Z.Warmed39 s.vm) {own C : String} {index n : Nat} (hown : s.vm.findClass own = some m.cls) (w : (Cond.classLink own index C).before a0 Z = true) (wi : (Cond.instantiable C n).before a0 Z = true) (wz : (Cond.initialized C).before a0 Z = true) (eT : T.heap = h) (hd : decode c.code pc = .ok (.new index, 3)) (hc : cells + 1 ≤ R.cells) (hl : slots + n ≤ R.slots) (hc' : cells + 1 = cells') (hs' : slots + n = slots') (hp : pc + 3 = pc')
    (kk : ∀ T' h' b, b = h.size → Stand p l e R s m args below meth c T' locs cells' slots' → T'.heap = h' → Ext h h' → Exa Z h' b C → (∀ {O nm d : String} {ty : FieldType}, Laid Z a0 C O nm d → parseFieldDescriptor d = some ty → Fld Z h' b O nm d (defaultValue ty)) → Goes p.tables e below P (T'.setTop (mkF m pc' L (.ref b :: S)))) : Goes p.tables e below P (T.setTop (mkF m pc L S)) := by
  subst hp hc' hs'
  obtain ⟨T', h', X', e', E', A', D', -, st⟩ := newO X hx hZ hown w wi wz eT (g := mkF m pc L S) rfl hd hc hl
  exact (kk T' h' _ rfl X' e' E' A' D').on st
theorem o_newP (X : Stand p l e R s m args below meth c T locs cells slots) (hx : p.tables.exec = Jvm.exec) (hZ : Z.Warmed39 s.vm) {aty : ArrayType} (w : (Cond.arrayClass (newarray.typeOf aty)).before a0 Z = true) (eT : T.heap = h) (hd : decode c.code pc = .ok (.newarray aty, 2)) {n : Int32} (hn : ¬ n < 0) {cap : Nat} (hcap : n.toNatClampNeg ≤ cap) (hb : cap * 8 ≤ 536870912) (hc : cells + 1 ≤ R.cells) (hl : slots + cap ≤ R.slots) (hc' : cells + 1 = cells') (hs' : slots + cap = slots') (hp : pc + 2 = pc')
    (kk : ∀ T' h' k b, b = h.size → Stand p l e R s m args below meth c T' locs cells' slots' → T'.heap = h' → Ext h h' → Arr Z h' b (newA k (newarray.typeOf aty) n) (newarray.typeOf aty) → Goes p.tables e below P (T'.setTop (mkF m pc' L (.ref b :: S)))) : Goes p.tables e below P (T.setTop (mkF m pc L (.int n :: S))) := by
  subst hp hc' hs'
  obtain ⟨T', h', k, X', e', E', A', st⟩ := newP X hx hZ w eT (g := mkF m pc L (.int n :: S)) rfl hd rfl hn hcap hb hc hl
  exact (kk T' h' k _ rfl X' e' E' A').on st
theorem o_initO (X : Stand p l e R s m args below meth c T locs cells slots) (hx : p.tables.exec = Jvm.exec) (hZ : Z.Warmed39 s.vm) {own : String} {idx : Nat} (hown : s.vm.findClass own = some m.cls) (w1 : (Cond.methodLink own idx Lib.objectInit).before a0 Z = true) (w2 : (Cond.instanceMethod Lib.objectInit).before a0 Z = true) (w3 : (Cond.code Lib.objectInit ⟨#[0xb1]⟩ 1 none).before a0 Z = true) (eT : T.heap = h) (hsize : L.size = c.maxLocals) {a : Addr} (hd : decode c.code pc = .ok (.invokespecial idx, 3)) (hf : 1 ≤ R.frames) {W : Nat} (hW : (S.map fun v => v.category).sum = W) (hl : W + 12 ≤ R.locals) (hp : pc + 3 = pc')
    (kk : ∀ T', Stand p l e R s m args below meth c T' locs cells slots → T'.heap = h → Goes p.tables e below P (T'.setTop (mkF m pc' L S))) : Goes p.tables e below P (T.setTop (mkF m pc L (.ref a :: S))) := by
  subst hp
  obtain ⟨T', X', e', st⟩ := initO X hx hZ hown w1 w2 w3 eT (g := mkF m pc L (.ref a :: S)) rfl hsize rfl hd hf (W := W) (by rw [← hW]; show 2 * 0 + _ ≤ _; omega) hl
  exact (kk T' X' e').on st
theorem o_stI (X : Stand p l e R s m args below meth c T locs cells slots) (hx : p.tables.exec = Jvm.exec) (hZ : Z.Warmed39 s.vm) (eT : T.heap = h) {a : Addr} {kc : ClassId} {z : Int32} {vs : List Value} {dv : Value} (A : Arv Z h a kc .int z vs dv) {j : Int32} {x : Int32} {i : Nat} (hj : ¬ j < 0 ∧ j < z) (hi : j.toNatClampNeg = i) (hv : i < vs.length) (hd : decode c.code pc = .ok (.iastore, 1)) (hp : pc + 1 = pc')
    (kk : ∀ T' h', Stand p l e R s m args below meth c T' (locs ++ [⟨a, i⟩]) cells slots → T'.heap = h' → Wr h h' a i (.int x) → Arv Z h' a kc .int z (vs.set i (.int x)) dv → Goes p.tables e below P (T'.setTop (mkF m pc' L S))) : Goes p.tables e below P (T.setTop (mkF m pc L ((.int x) :: .int j :: .ref a :: S))) := by
  subst hp
  obtain ⟨cl, A1, q1, S1, N1, H1, G1⟩ := A
  obtain ⟨T', h', X', e', W', st⟩ := stI X hx hZ eT A1 (j := j) (x := x) (inb_of S1 hj) (g := mkF m pc L ((.int x) :: .int j :: .ref a :: S)) rfl rfl hd
  have V' := Arv.set A1 q1 S1 N1 H1 G1 (rfl) W' i hi hv
  rw [hi] at X' W'
  exact (kk T' h' X' e' W' V').on st
theorem o_stJ (X : Stand p l e R s m args below meth c T locs cells slots) (hx : p.tables.exec = Jvm.exec) (hZ : Z.Warmed39 s.vm) (eT : T.heap = h) {a : Addr} {kc : ClassId} {z : Int32} {vs : List Value} {dv : Value} (A : Arv Z h a kc .long z vs dv) {j : Int32} {x : Int64} {i : Nat} (hj : ¬ j < 0 ∧ j < z) (hi : j.toNatClampNeg = i) (hv : i < vs.length) (hd : decode c.code pc = .ok (.lastore, 1)) (hp : pc + 1 = pc')
    (kk : ∀ T' h', Stand p l e R s m args below meth c T' (locs ++ [⟨a, i⟩]) cells slots → T'.heap = h' → Wr h h' a i (.long x) → Arv Z h' a kc .long z (vs.set i (.long x)) dv → Goes p.tables e below P (T'.setTop (mkF m pc' L S))) : Goes p.tables e below P (T.setTop (mkF m pc L ((.long x) :: .int j :: .ref a :: S))) := by
  subst hp
  obtain ⟨cl, A1, q1, S1, N1, H1, G1⟩ := A
  obtain ⟨T', h', X', e', W', st⟩ := stJ X hx hZ eT A1 (j := j) (x := x) (inb_of S1 hj) (g := mkF m pc L ((.long x) :: .int j :: .ref a :: S)) rfl rfl hd
  have V' := Arv.set A1 q1 S1 N1 H1 G1 (rfl) W' i hi hv
  rw [hi] at X' W'
  exact (kk T' h' X' e' W' V').on st
theorem o_stC (X : Stand p l e R s m args below meth c T locs cells slots) (hx : p.tables.exec = Jvm.exec) (hZ : Z.Warmed39 s.vm) (eT : T.heap = h) {a : Addr} {kc : ClassId} {z : Int32} {vs : List Value} {dv : Value} (A : Arv Z h a kc .char z vs dv) {j : Int32} {x : Int32} {i : Nat} (hj : ¬ j < 0 ∧ j < z) (hi : j.toNatClampNeg = i) (hv : i < vs.length) (hd : decode c.code pc = .ok (.castore, 1)) (hp : pc + 1 = pc')
    (kk : ∀ T' h', Stand p l e R s m args below meth c T' (locs ++ [⟨a, i⟩]) cells slots → T'.heap = h' → Wr h h' a i (.int (nar .char x)) → Arv Z h' a kc .char z (vs.set i (.int (nar .char x))) dv → Goes p.tables e below P (T'.setTop (mkF m pc' L S))) : Goes p.tables e below P (T.setTop (mkF m pc L ((.int x) :: .int j :: .ref a :: S))) := by
  subst hp
  obtain ⟨cl, A1, q1, S1, N1, H1, G1⟩ := A
  obtain ⟨T', h', X', e', W', st⟩ := stC X hx hZ eT A1 (j := j) (x := x) (inb_of S1 hj) (g := mkF m pc L ((.int x) :: .int j :: .ref a :: S)) rfl rfl hd
  have V' := Arv.set A1 q1 S1 N1 H1 G1 (fits_nar_char _) W' i hi hv
  rw [hi] at X' W'
  exact (kk T' h' X' e' W' V').on st
theorem o_stB (X : Stand p l e R s m args below meth c T locs cells slots) (hx : p.tables.exec = Jvm.exec) (hZ : Z.Warmed39 s.vm) (eT : T.heap = h) {a : Addr} {kc : ClassId} {z : Int32} {vs : List Value} {dv : Value} (A : Arv Z h a kc .byte z vs dv) {j : Int32} {x : Int32} {i : Nat} (hj : ¬ j < 0 ∧ j < z) (hi : j.toNatClampNeg = i) (hv : i < vs.length) (hd : decode c.code pc = .ok (.bastore, 1)) (hp : pc + 1 = pc')
    (kk : ∀ T' h', Stand p l e R s m args below meth c T' (locs ++ [⟨a, i⟩]) cells slots → T'.heap = h' → Wr h h' a i (.int (nar .byte x)) → Arv Z h' a kc .byte z (vs.set i (.int (nar .byte x))) dv → Goes p.tables e below P (T'.setTop (mkF m pc' L S))) : Goes p.tables e below P (T.setTop (mkF m pc L ((.int x) :: .int j :: .ref a :: S))) := by
  subst hp
  obtain ⟨cl, A1, q1, S1, N1, H1, G1⟩ := A
  obtain ⟨T', h', X', e', W', st⟩ := stB X hx hZ eT A1 (j := j) (x := x) (inb_of S1 hj) (g := mkF m pc L ((.int x) :: .int j :: .ref a :: S)) rfl rfl hd
  have V' := Arv.set A1 q1 S1 N1 H1 G1 (fits_nar_byte _) W' i hi hv
  rw [hi] at X' W'
  exact (kk T' h' X' e' W' V').on st
theorem o_stZ (X : Stand p l e R s m args below meth c T locs cells slots) (hx : p.tables.exec = Jvm.exec) (hZ : Z.Warmed39 s.vm) (eT : T.heap = h) {a : Addr} {kc : ClassId} {z : Int32} {vs : List Value} {dv : Value} (A : Arv Z h a kc .boolean z vs dv) {j : Int32} {x : Int32} {i : Nat} (hj : ¬ j < 0 ∧ j < z) (hi : j.toNatClampNeg = i) (hv : i < vs.length) (hd : decode c.code pc = .ok (.bastore, 1)) (hp : pc + 1 = pc')
    (kk : ∀ T' h', Stand p l e R s m args below meth c T' (locs ++ [⟨a, i⟩]) cells slots → T'.heap = h' → Wr h h' a i (.int (nar .boolean x)) → Arv Z h' a kc .boolean z (vs.set i (.int (nar .boolean x))) dv → Goes p.tables e below P (T'.setTop (mkF m pc' L S))) : Goes p.tables e below P (T.setTop (mkF m pc L ((.int x) :: .int j :: .ref a :: S))) := by
  subst hp
  obtain ⟨cl, A1, q1, S1, N1, H1, G1⟩ := A
  obtain ⟨T', h', X', e', W', st⟩ := stZ X hx hZ eT A1 (j := j) (x := x) (inb_of S1 hj) (g := mkF m pc L ((.int x) :: .int j :: .ref a :: S)) rfl rfl hd
  have V' := Arv.set A1 q1 S1 N1 H1 G1 (fits_nar_bool _) W' i hi hv
  rw [hi] at X' W'
  exact (kk T' h' X' e' W' V').on st
theorem o_stD (X : Stand p l e R s m args below meth c T locs cells slots) (hx : p.tables.exec = Jvm.exec) (hZ : Z.Warmed39 s.vm) (eT : T.heap = h) {a : Addr} {kc : ClassId} {z : Int32} {vs : List Value} {dv : Value} (A : Arv Z h a kc .double z vs dv) {j : Int32} {x : UInt64} {i : Nat} (hj : ¬ j < 0 ∧ j < z) (hi : j.toNatClampNeg = i) (hv : i < vs.length) (hd : decode c.code pc = .ok (.dastore, 1)) (hp : pc + 1 = pc')
    (kk : ∀ T' h', Stand p l e R s m args below meth c T' (locs ++ [⟨a, i⟩]) cells slots → T'.heap = h' → Wr h h' a i (.double x) → Arv Z h' a kc .double z (vs.set i (.double x)) dv → Goes p.tables e below P (T'.setTop (mkF m pc' L S))) : Goes p.tables e below P (T.setTop (mkF m pc L ((.double x) :: .int j :: .ref a :: S))) := by
  subst hp
  obtain ⟨cl, A1, q1, S1, N1, H1, G1⟩ := A
  obtain ⟨T', h', X', e', W', st⟩ := stD X hx hZ eT A1 (j := j) (x := x) (inb_of S1 hj) (g := mkF m pc L ((.double x) :: .int j :: .ref a :: S)) rfl rfl hd
  have V' := Arv.set A1 q1 S1 N1 H1 G1 (rfl) W' i hi hv
  rw [hi] at X' W'
  exact (kk T' h' X' e' W' V').on st
theorem o_castY (X : Stand p l e R s m args below meth c T locs cells slots) (hx : p.tables.exec = Jvm.exec) (hZ : Z.Warmed39 s.vm) {own K : String} {index : Nat} (hown : s.vm.findClass own = some m.cls) (w : (Cond.classLink own index K).before a0 Z = true) (eT : T.heap = h) {a : Addr} (F : Ins Z h a K true) (hd : decode c.code pc = .ok (.checkcast index, 3)) (hp : pc + 3 = pc')
    (kk : ∀ T', Stand p l e R s m args below meth c T' locs cells slots → T'.heap = h → Goes p.tables e below P (T'.setTop (mkF m pc' L (.ref a :: S)))) : Goes p.tables e below P (T.setTop (mkF m pc L (.ref a :: S))) := by
  subst hp
  obtain ⟨T', X', e', st⟩ := castY X hx hZ hown w eT F (g := mkF m pc L (.ref a :: S)) rfl rfl hd
  exact (kk T' X' e').on st
theorem o_instY (X : Stand p l e R s m args below meth c T locs cells slots) (hx : p.tables.exec = Jvm.exec) (hZ : Z.Warmed39 s.vm) {own K : String} {index : Nat} (hown : s.vm.findClass own = some m.cls) (w : (Cond.classLink own index K).before a0 Z = true) (eT : T.heap = h) {a : Addr} (F : Ins Z h a K true) (hd : decode c.code pc = .ok (.instanceof index, 3)) (hp : pc + 3 = pc')
    (kk : ∀ T', Stand p l e R s m args below meth c T' locs cells slots → T'.heap = h → Goes p.tables e below P (T'.setTop (mkF m pc' L (.int 1 :: S)))) : Goes p.tables e below P (T.setTop (mkF m pc L (.ref a :: S))) := by
  subst hp
  obtain ⟨T', X', e', st⟩ := instY X hx hZ hown w eT F (g := mkF m pc L (.ref a :: S)) rfl rfl hd
  exact (kk T' X' e').on st
theorem o_instNo (X : Stand p l e R s m args below meth c T locs cells slots) (hx : p.tables.exec = Jvm.exec) (hZ : Z.Warmed39 s.vm) {own K C : String} {index : Nat} (hown : s.vm.findClass own = some m.cls) (w : (Cond.classLink own index K).before a0 Z = true) (eT : T.heap = h) {a : Addr} (E : Exa Z h a C) (F : ∃ c t, Z.vm.findClass C = some c ∧ Z.vm.findClass K = some t ∧ Z.vm.assignable c t = false) (hd : decode c.code pc = .ok (.instanceof index, 3)) (hp : pc + 3 = pc')
    (kk : ∀ T', Stand p l e R s m args below meth c T' locs cells slots → T'.heap = h → Goes p.tables e below P (T'.setTop (mkF m pc' L (.int 0 :: S)))) : Goes p.tables e below P (T.setTop (mkF m pc L (.ref a :: S))) := by
  subst hp
  obtain ⟨T', X', e', st⟩ := instNo X hx hZ hown w eT E F (g := mkF m pc L (.ref a :: S)) rfl rfl hd
  exact (kk T' X' e').on st
theorem o_static (X : Stand p l e R s m args below meth c T locs cells slots) (hx : p.tables.exec = Jvm.exec) (hZ : Z.Warmed39 s.vm) {own : String} {index : Nat} {y : MethodName} {bytes : ByteArray} {maxL : Nat} {ret : Option FieldType} (hown : s.vm.findClass own = some m.cls) (w1 : (Cond.methodLink own index y).before a0 Z = true) (w2 : (Cond.static y).before a0 Z = true) (hy : y.cls ≠ "java/lang/invoke/MethodHandle" ∧ y.cls ≠ "java/lang/invoke/VarHandle") {rm : Room} {as' : Array Value} {Q : Option Value → Heap → List Loc → Prop} (hM : Met l Z y bytes maxL ret rm [] as' h Q) (hwc : (Cond.code y bytes maxL ret).before a0 Z = true) (hwi : (Cond.initialized y.cls).before a0 Z = true) (eT : T.heap = h) (hsize : L.size = c.maxLocals) {argsL rest : List Value} {W : Nat} {ps : List FieldType} {rr : Option FieldType} (hpd : parseMethodDescriptor y.desc = some ⟨ps, rr⟩) (hlen : argsL.length = ps.length) (hst : S = argsL.reverse ++ rest) (has : as' = (argsL).toArray) (hW : (rest.map fun v => v.category).sum = W) (hd : decode c.code pc = .ok (.invokestatic index, 3)) (hf : rm.frames + 1 ≤ R.frames) (hlo : W + (maxL + 11) + rm.locals ≤ R.locals) (hc : cells + rm.cells ≤ R.cells) (hs : slots + rm.slots ≤ R.slots) (hc' : cells + rm.cells = cells') (hs' : slots + rm.slots = slots') (hp : pc + 3 = pc')
    (kk : ∀ v T' h' Lc, Stand p l e R s m args below meth c T' (locs ++ Lc) cells' slots' → T'.heap = h' → Q v h' Lc → Goes p.tables e below P (T'.setTop (mkF m pc' L (v.toList ++ rest)))) : Goes p.tables e below P (T.setTop (mkF m pc L S)) := by
  subst hp hc' hs' hst has
  obtain ⟨_, _, ⟨T1, L1, k1, n1⟩, -, X1, ⟨Lc, hQ, l1, y1, z1⟩, st⟩ := Jvm.LawKit.callS X hx hown (mvT hZ w1) (mvT hZ w2) (mvT hZ hwi) (mvT hZ hwc) hy (backOf (W := W) hM hZ hwc hwi hf hlo) (g := mkF m pc L (argsL.reverse ++ rest)) rfl hsize (argsL := argsL) (rest := rest) (lenOf hpd hlen) rfl (by rw [← hW]; show 2 * 0 + _ ≤ _; omega) hd (fun _ _ => ⟨rfl, eT, hc, hs⟩)
  dsimp only [Pt.U, Pt.locs, Pt.cells, Pt.slots] at X1 l1 y1 z1 st hQ
  subst l1 y1 z1
  exact (kk _ _ _ _ X1 rfl hQ).on st
theorem o_staticN (X : Stand p l e R s m args below meth c T locs cells slots) (hx : p.tables.exec = Jvm.exec) (hZ : Z.Warmed39 s.vm) {own host : String} {index : Nat} {y : MethodName} {bytes : ByteArray} {maxL : Nat} {ret : Option FieldType} (hown : s.vm.findClass own = some m.cls) (w1 : (Cond.methodLinkNest own index y host).before a0 Z = true) (w2 : (Cond.static y).before a0 Z = true) (hy : y.cls ≠ "java/lang/invoke/MethodHandle" ∧ y.cls ≠ "java/lang/invoke/VarHandle") {rm : Room} {as' : Array Value} {Q : Option Value → Heap → List Loc → Prop} (hM : Met l Z y bytes maxL ret rm [] as' h Q) (hwc : (Cond.code y bytes maxL ret).before a0 Z = true) (hwi : (Cond.initialized y.cls).before a0 Z = true) (eT : T.heap = h) (hsize : L.size = c.maxLocals) {argsL rest : List Value} {W : Nat} {ps : List FieldType} {rr : Option FieldType} (hpd : parseMethodDescriptor y.desc = some ⟨ps, rr⟩) (hlen : argsL.length = ps.length) (hst : S = argsL.reverse ++ rest) (has : as' = (argsL).toArray) (hW : (rest.map fun v => v.category).sum = W) (hd : decode c.code pc = .ok (.invokestatic index, 3)) (hf : rm.frames + 1 ≤ R.frames) (hlo : W + (maxL + 11) + rm.locals ≤ R.locals) (hc : cells + rm.cells ≤ R.cells) (hs : slots + rm.slots ≤ R.slots) (hc' : cells + rm.cells = cells') (hs' : slots + rm.slots = slots') (hp : pc + 3 = pc')
    (kk : ∀ v T' h' Lc, Stand p l e R s m args below meth c T' (locs ++ Lc) cells' slots' → T'.heap = h' → Q v h' Lc → Goes p.tables e below P (T'.setTop (mkF m pc' L (v.toList ++ rest)))) : Goes p.tables e below P (T.setTop (mkF m pc L S)) := by
  subst hp hc' hs' hst has
  obtain ⟨_, _, ⟨T1, L1, k1, n1⟩, -, X1, ⟨Lc, hQ, l1, y1, z1⟩, st⟩ := Jvm.RoadKit.callSN X hx hown (Cond.methodLinkNest_wide hZ w1) (mvT hZ w2) (mvT hZ hwi) (mvT hZ hwc) hy (backOf (W := W) hM hZ hwc hwi hf hlo) (g := mkF m pc L (argsL.reverse ++ rest)) rfl hsize (argsL := argsL) (rest := rest) (lenOf hpd hlen) rfl (by rw [← hW]; show 2 * 0 + _ ≤ _; omega) hd (fun _ _ => ⟨rfl, eT, hc, hs⟩)
  dsimp only [Pt.U, Pt.locs, Pt.cells, Pt.slots] at X1 l1 y1 z1 st hQ
  subst l1 y1 z1
  exact (kk _ _ _ _ X1 rfl hQ).to st
theorem o_special (X : Stand p l e R s m args below meth c T locs cells slots) (hx : p.tables.exec = Jvm.exec) (hZ : Z.Warmed39 s.vm) {own : String} {index : Nat} {y : MethodName} {bytes : ByteArray} {maxL : Nat} {ret : Option FieldType} (hr : ret = none) (hy1 : y.name = "<init>") (hown : s.vm.findClass own = some m.cls) (w1 : (Cond.methodLink own index y).before a0 Z = true) (w2 : (Cond.instanceMethod y).before a0 Z = true) (hy : y.cls ≠ "java/lang/invoke/MethodHandle" ∧ y.cls ≠ "java/lang/invoke/VarHandle") {a : Addr} {rm : Room} {as' : Array Value} {Q : Option Value → Heap → List Loc → Prop} (hM : Met l Z y bytes maxL ret rm [] as' h Q) (hwc : (Cond.code y bytes maxL ret).before a0 Z = true) (hwi : (Cond.initialized y.cls).before a0 Z = true) (eT : T.heap = h) (hsize : L.size = c.maxLocals) {argsL rest : List Value} {W : Nat} {ps : List FieldType} {rr : Option FieldType} (hpd : parseMethodDescriptor y.desc = some ⟨ps, rr⟩) (hlen : argsL.length = ps.length) (hst : S = argsL.reverse ++ .ref a :: rest) (has : as' = (.ref a :: argsL).toArray) (hW : (rest.map fun v => v.category).sum = W) (hd : decode c.code pc = .ok (.invokespecial index, 3)) (hf : rm.frames + 1 ≤ R.frames) (hlo : W + (maxL + 11) + rm.locals ≤ R.locals) (hc : cells + rm.cells ≤ R.cells) (hs : slots + rm.slots ≤ R.slots) (hc' : cells + rm.cells = cells') (hs' : slots + rm.slots = slots') (hp : pc + 3 = pc')
    (kk : ∀ v T' h' Lc, Stand p l e R s m args below meth c T' (locs ++ Lc) cells' slots' → T'.heap = h' → Q v h' Lc → Goes p.tables e below P (T'.setTop (mkF m pc' L (v.toList ++ rest)))) : Goes p.tables e below P (T.setTop (mkF m pc L S)) := by
  subst hp hc' hs' hst has hr
  obtain ⟨_, _, ⟨T1, L1, k1, n1⟩, -, X1, ⟨Lc, hQ, l1, y1, z1⟩, st⟩ := X.specialBack hx hy1 hown (mvT hZ w1) (mvT hZ w2) (mvT hZ hwc) hy (backOf (W := W) hM hZ hwc hwi hf hlo) (g := mkF m pc L (argsL.reverse ++ .ref a :: rest)) rfl hsize (Steps.refl _) (a := a) (argsL := argsL) (rest := rest) (lenOf hpd hlen) rfl (by rw [← hW]; show 2 * 0 + _ ≤ _; omega) hd (fun _ _ => ⟨rfl, eT, hc, hs⟩)
  dsimp only [Pt.U, Pt.locs, Pt.cells, Pt.slots] at X1 l1 y1 z1 st hQ
  subst l1 y1 z1
  exact (kk _ _ _ _ X1 rfl hQ).to st
theorem o_virtual (X : Stand p l e R s m args below meth c T locs cells slots) (hx : p.tables.exec = Jvm.exec) (hZ : Z.Warmed39 s.vm) {own C : String} {index : Nat} {y z : MethodName} {bytes : ByteArray} {maxL : Nat} {ret : Option FieldType} (hown : s.vm.findClass own = some m.cls) (w1 : (Cond.methodLink own index y).before a0 Z = true) (w2 : (Cond.declares y).before a0 Z = true) (hnf : NotFace s y) (w3 : (Cond.selects C y z).before a0 Z = true) (w4 : (Cond.instanceMethod z).before a0 Z = true) (hy : y.cls ≠ "java/lang/invoke/MethodHandle" ∧ y.cls ≠ "java/lang/invoke/VarHandle") {a : Addr} (E : Exa Z h a C) {rm : Room} {as' : Array Value} {Q : Option Value → Heap → List Loc → Prop} (hM : Met l Z z bytes maxL ret rm [] as' h Q) (hwc : (Cond.code z bytes maxL ret).before a0 Z = true) (hwi : (Cond.initialized z.cls).before a0 Z = true) (eT : T.heap = h) (hsize : L.size = c.maxLocals) {argsL rest : List Value} {W : Nat} {ps : List FieldType} {rr : Option FieldType} (hpd : parseMethodDescriptor y.desc = some ⟨ps, rr⟩) (hlen : argsL.length = ps.length) (hst : S = argsL.reverse ++ .ref a :: rest) (has : as' = (.ref a :: argsL).toArray) (hW : (rest.map fun v => v.category).sum = W) (hd : decode c.code pc = .ok (.invokevirtual index, 3)) (hf : rm.frames + 1 ≤ R.frames) (hlo : W + (maxL + 11) + rm.locals ≤ R.locals) (hc : cells + rm.cells ≤ R.cells) (hs : slots + rm.slots ≤ R.slots) (hc' : cells + rm.cells = cells') (hs' : slots + rm.slots = slots') (hp : pc + 3 = pc')
    (kk : ∀ v T' h' Lc, Stand p l e R s m args below meth c T' (locs ++ Lc) cells' slots' → T'.heap = h' → Q v h' Lc → Goes p.tables e below P (T'.setTop (mkF m pc' L (v.toList ++ rest)))) : Goes p.tables e below P (T.setTop (mkF m pc L S)) := by
  subst hp hc' hs' hst has
  obtain ⟨cq, kq, qa, qb, qc⟩ := isOf (T := T) hZ eT E
  obtain ⟨_, _, ⟨T1, L1, k1, n1⟩, -, X1, ⟨Lc, hQ, l1, y1, z1⟩, st⟩ := X.virtualBack hx hown (mvT hZ w1) (mvT hZ w2) hnf (mvT hZ w3) (mvT hZ w4) hy (backOf (W := W) hM hZ hwc hwi hf hlo) qa qc (g := mkF m pc L (argsL.reverse ++ .ref a :: rest)) rfl hsize (Steps.refl _) (argsL := argsL) (rest := rest) (lenOf hpd hlen) rfl (by rw [← hW]; show 2 * 0 + _ ≤ _; omega) hd (fun _ _ => ⟨rfl, eT, hc, hs⟩)
  dsimp only [Pt.U, Pt.locs, Pt.cells, Pt.slots] at X1 l1 y1 z1 st hQ
  subst l1 y1 z1
  exact (kk _ _ _ _ X1 rfl hQ).to st
theorem o_iface (X : Stand p l e R s m args below meth c T locs cells slots) (hx : p.tables.exec = Jvm.exec) (hZ : Z.Warmed39 s.vm) {own C : String} {index count : Nat} {xi y : MethodName} {bytes : ByteArray} {maxL : Nat} {ret : Option FieldType} (hown : s.vm.findClass own = some m.cls) (w1 : (Cond.methodLink own index xi).before a0 Z = true) (w2 : (Cond.declares xi).before a0 Z = true) (w3 : (Cond.interfaceMethod xi.cls xi.cls xi.name xi.desc).before args s = true) (w4 : (Cond.selects C xi y).before a0 Z = true) (w5 : (Cond.instanceMethod y).before a0 Z = true) (w6 : (Cond.publicMethod y).before a0 Z = true) (w7 : (Cond.unhidden C xi.name xi.desc).before a0 Z = true) (w8 : (Cond.castable C xi.cls).before a0 Z = true) (hy : xi.cls ≠ "java/lang/invoke/MethodHandle" ∧ xi.cls ≠ "java/lang/invoke/VarHandle") {a : Addr} (E : Exa Z h a C) {rm : Room} {as' : Array Value} {Q : Option Value → Heap → List Loc → Prop} (hM : Met l Z y bytes maxL ret rm [] as' h Q) (hwc : (Cond.code y bytes maxL ret).before a0 Z = true) (hwi : (Cond.initialized y.cls).before a0 Z = true) (eT : T.heap = h) (hsize : L.size = c.maxLocals) {argsL rest : List Value} {W : Nat} {ps : List FieldType} {rr : Option FieldType} (hpd : parseMethodDescriptor xi.desc = some ⟨ps, rr⟩) (hlen : argsL.length = ps.length) (hst : S = argsL.reverse ++ .ref a :: rest) (has : as' = (.ref a :: argsL).toArray) (hW : (rest.map fun v => v.category).sum = W) (hd : decode c.code pc = .ok (.invokeinterface index count, 5)) (hf : rm.frames + 1 ≤ R.frames) (hlo : W + (maxL + 11) + rm.locals ≤ R.locals) (hc : cells + rm.cells ≤ R.cells) (hs : slots + rm.slots ≤ R.slots) (hc' : cells + rm.cells = cells') (hs' : slots + rm.slots = slots') (hp : pc + 5 = pc')
    (kk : ∀ v T' h' Lc, Stand p l e R s m args below meth c T' (locs ++ Lc) cells' slots' → T'.heap = h' → Q v h' Lc → Goes p.tables e below P (T'.setTop (mkF m pc' L (v.toList ++ rest)))) : Goes p.tables e below P (T.setTop (mkF m pc L S)) := by
  subst hp hc' hs' hst has
  obtain ⟨cq, kq, qa, qb, qc⟩ := isOf (T := T) hZ eT E
  obtain ⟨_, _, ⟨T1, L1, k1, n1⟩, -, X1, ⟨Lc, hQ, l1, y1, z1⟩, st⟩ := X.interfaceBack hx hown (mvT hZ w1) (mvT hZ w2) w3 (mvT hZ w4) (mvT hZ w5) (mvT hZ w6) (mvT hZ w7) (mvT hZ w8) hy (backOf (W := W) hM hZ hwc hwi hf hlo) qa qb qc (g := mkF m pc L (argsL.reverse ++ .ref a :: rest)) rfl hsize (Steps.refl _) (argsL := argsL) (rest := rest) (lenOf hpd hlen) rfl (by rw [← hW]; show 2 * 0 + _ ≤ _; omega) hd (fun _ _ => ⟨rfl, eT, hc, hs⟩)
  dsimp only [Pt.U, Pt.locs, Pt.cells, Pt.slots] at X1 l1 y1 z1 st hQ
  subst l1 y1 z1
  exact (kk _ _ _ _ X1 rfl hQ).to st
theorem o_virtualUp (X : Stand p l e R s m args below meth c T locs cells slots) (hx : p.tables.exec = Jvm.exec) (hZ : Z.Warmed39 s.vm) {own C owner : String} {index : Nat} {x y : MethodName} {bytes : ByteArray} {maxL : Nat} {ret : Option FieldType} (hown : s.vm.findClass own = some m.cls) (w1 : (Cond.methodLink own index x).before a0 Z = true) (w2 : (Cond.sameMethod x.cls owner x.name x.desc).before a0 Z = true) (w2' : (Cond.declares ⟨owner, x.name, x.desc⟩).before a0 Z = true) (w3 : (Cond.selects C x y).before a0 Z = true) (w4 : (Cond.instanceMethod y).before a0 Z = true) (hy : owner ≠ "java/lang/invoke/MethodHandle" ∧ owner ≠ "java/lang/invoke/VarHandle") {a : Addr} (E : Exa Z h a C) {rm : Room} {as' : Array Value} {Q : Option Value → Heap → List Loc → Prop} (hM : Met l Z y bytes maxL ret rm [] as' h Q) (hwc : (Cond.code y bytes maxL ret).before a0 Z = true) (hwi : (Cond.initialized y.cls).before a0 Z = true) (eT : T.heap = h) (hsize : L.size = c.maxLocals) {argsL rest : List Value} {W : Nat} {ps : List FieldType} {rr : Option FieldType} (hpd : parseMethodDescriptor x.desc = some ⟨ps, rr⟩) (hlen : argsL.length = ps.length) (hst : S = argsL.reverse ++ .ref a :: rest) (has : as' = (.ref a :: argsL).toArray) (hW : (rest.map fun v => v.category).sum = W) (hd : decode c.code pc = .ok (.invokevirtual index, 3)) (hf : rm.frames + 1 ≤ R.frames) (hlo : W + (maxL + 11) + rm.locals ≤ R.locals) (hc : cells + rm.cells ≤ R.cells) (hs : slots + rm.slots ≤ R.slots) (hc' : cells + rm.cells = cells') (hs' : slots + rm.slots = slots') (hp : pc + 3 = pc')
    (kk : ∀ v T' h' Lc, Stand p l e R s m args below meth c T' (locs ++ Lc) cells' slots' → T'.heap = h' → Q v h' Lc → Goes p.tables e below P (T'.setTop (mkF m pc' L (v.toList ++ rest)))) : Goes p.tables e below P (T.setTop (mkF m pc L S)) := by
  subst hp hc' hs' hst has
  obtain ⟨cq, kq, qa, qb, qc⟩ := isOf (T := T) hZ eT E
  obtain ⟨_, _, ⟨T1, L1, k1, n1⟩, -, X1, ⟨Lc, hQ, l1, y1, z1⟩, st⟩ := X.virtualBackUp hx hown (mvT hZ w1) (mvT hZ w2) (mvT hZ w2') hy (mvT hZ w3) (mvT hZ w4) (backOf (W := W) hM hZ hwc hwi hf hlo) qa qc (g := mkF m pc L (argsL.reverse ++ .ref a :: rest)) rfl hsize (Steps.refl _) (argsL := argsL) (rest := rest) (lenOf hpd hlen) rfl (by rw [← hW]; show 2 * 0 + _ ≤ _; omega) hd (fun _ _ => ⟨rfl, eT, hc, hs⟩)
  dsimp only [Pt.U, Pt.locs, Pt.cells, Pt.slots] at X1 l1 y1 z1 st hQ
  subst l1 y1 z1
  exact (kk _ _ _ _ X1 rfl hQ).to st
theorem o_alen (X : Stand p l e R s m args below meth c T locs cells slots) (hx : p.tables.exec = Jvm.exec) (hZ : Z.Warmed39 s.vm) (eT : T.heap = h) {a : Addr} {kc : ClassId} {ty : FieldType} {z : Int32} {vs : List Value} {dv : Value} (A : Arv Z h a kc ty z vs dv) (hd : decode c.code pc = .ok (.arraylength, 1)) (hp : pc + 1 = pc') (kk : Goes p.tables e below P (T.setTop (mkF m pc' L (.int z :: S)))) : Goes p.tables e below P (T.setTop (mkF m pc L (.ref a :: S))) := by
  subst hp
  obtain ⟨cl, A1, q1, S1, N1, H1, G1⟩ := A
  rw [← len_of S1 N1] at kk
  exact kk.on fun _ k => X.arraylength hx (by rw [eT]; exact A1.1) (State.isArrayOf_alike hZ.alike A1.2.1) (g := mkF m pc L (.ref a :: S)) rfl rfl hd _ k
theorem o_iaload (X : Stand p l e R s m args below meth c T locs cells slots) (hx : p.tables.exec = Jvm.exec) (hZ : Z.Warmed39 s.vm) (eT : T.heap = h) {a : Addr} {kc : ClassId} {z : Int32} {vs : List Value} {dv v : Value} (A : Arv Z h a kc .int z vs dv) {j : Int32} (hj : ¬ j < 0 ∧ j < z) (hv : vs.getD j.toNatClampNeg dv = v) (hd : decode c.code pc = .ok (.iaload, 1)) (hp : pc + 1 = pc') (kk : Goes p.tables e below P (T.setTop (mkF m pc' L (v :: S)))) : Goes p.tables e below P (T.setTop (mkF m pc L (.int j :: .ref a :: S))) := by
  subst hp
  obtain ⟨cl, A1, q1, S1, N1, H1, G1⟩ := A
  have hin := inb_of S1 hj
  exact kk.on fun _ k => X.iaload hx (j := j) (v := v) (by rw [eT]; exact A1.1) (State.isArrayOf_alike hZ.alike A1.2.1) A1.2.2 hin (H1.at hin hv) (g := mkF m pc L (.int j :: .ref a :: S)) rfl rfl hd _ k
theorem o_laload (X : Stand p l e R s m args below meth c T locs cells slots) (hx : p.tables.exec = Jvm.exec) (hZ : Z.Warmed39 s.vm) (eT : T.heap = h) {a : Addr} {kc : ClassId} {z : Int32} {vs : List Value} {dv v : Value} (A : Arv Z h a kc .long z vs dv) {j : Int32} (hj : ¬ j < 0 ∧ j < z) (hv : vs.getD j.toNatClampNeg dv = v) (hd : decode c.code pc = .ok (.laload, 1)) (hp : pc + 1 = pc') (kk : Goes p.tables e below P (T.setTop (mkF m pc' L (v :: S)))) : Goes p.tables e below P (T.setTop (mkF m pc L (.int j :: .ref a :: S))) := by
  subst hp
  obtain ⟨cl, A1, q1, S1, N1, H1, G1⟩ := A
  have hin := inb_of S1 hj
  exact kk.on fun _ k => X.laload hx (j := j) (v := v) (by rw [eT]; exact A1.1) (State.isArrayOf_alike hZ.alike A1.2.1) A1.2.2 hin (H1.at hin hv) (g := mkF m pc L (.int j :: .ref a :: S)) rfl rfl hd _ k
theorem o_caload (X : Stand p l e R s m args below meth c T locs cells slots) (hx : p.tables.exec = Jvm.exec) (hZ : Z.Warmed39 s.vm) (eT : T.heap = h) {a : Addr} {kc : ClassId} {z : Int32} {vs : List Value} {dv v : Value} (A : Arv Z h a kc .char z vs dv) {j : Int32} (hj : ¬ j < 0 ∧ j < z) (hv : vs.getD j.toNatClampNeg dv = v) (hd : decode c.code pc = .ok (.caload, 1)) (hp : pc + 1 = pc') (kk : Goes p.tables e below P (T.setTop (mkF m pc' L (v :: S)))) : Goes p.tables e below P (T.setTop (mkF m pc L (.int j :: .ref a :: S))) := by
  subst hp
  obtain ⟨cl, A1, q1, S1, N1, H1, G1⟩ := A
  have hin := inb_of S1 hj
  exact kk.on fun _ k => X.caload hx (j := j) (v := v) (by rw [eT]; exact A1.1) (State.isArrayOf_alike hZ.alike A1.2.1) A1.2.2 hin (H1.at hin hv) (g := mkF m pc L (.int j :: .ref a :: S)) rfl rfl hd _ k
theorem o_baloadBytes (X : Stand p l e R s m args below meth c T locs cells slots) (hx : p.tables.exec = Jvm.exec) (hZ : Z.Warmed39 s.vm) (eT : T.heap = h) {a : Addr} {kc : ClassId} {z : Int32} {vs : List Value} {dv v : Value} (A : Arv Z h a kc .byte z vs dv) {j : Int32} (hj : ¬ j < 0 ∧ j < z) (hv : vs.getD j.toNatClampNeg dv = v) (hd : decode c.code pc = .ok (.baload, 1)) (hp : pc + 1 = pc') (kk : Goes p.tables e below P (T.setTop (mkF m pc' L (v :: S)))) : Goes p.tables e below P (T.setTop (mkF m pc L (.int j :: .ref a :: S))) := by
  subst hp
  obtain ⟨cl, A1, q1, S1, N1, H1, G1⟩ := A
  have hin := inb_of S1 hj
  exact kk.on fun _ k => X.baloadBytes hx (j := j) (v := v) (by rw [eT]; exact A1.1) (State.isArrayOf_alike hZ.alike A1.2.1) A1.2.2 hin (H1.at hin hv) (g := mkF m pc L (.int j :: .ref a :: S)) rfl rfl hd _ k
theorem o_daload (X : Stand p l e R s m args below meth c T locs cells slots) (hx : p.tables.exec = Jvm.exec) (hZ : Z.Warmed39 s.vm) (eT : T.heap = h) {a : Addr} {kc : ClassId} {z : Int32} {vs : List Value} {dv v : Value} (A : Arv Z h a kc .double z vs dv) {j : Int32} (hj : ¬ j < 0 ∧ j < z) (hv : vs.getD j.toNatClampNeg dv = v) (hd : decode c.code pc = .ok (.daload, 1)) (hp : pc + 1 = pc') (kk : Goes p.tables e below P (T.setTop (mkF m pc' L (v :: S)))) : Goes p.tables e below P (T.setTop (mkF m pc L (.int j :: .ref a :: S))) := by
  subst hp
  obtain ⟨cl, A1, q1, S1, N1, H1, G1⟩ := A
  have hin := inb_of S1 hj
  exact kk.on fun _ k => X.daload hx (j := j) (v := v) (by rw [eT]; exact A1.1) (State.isArrayOf_alike hZ.alike A1.2.1) A1.2.2 hin (H1.at hin hv) (g := mkF m pc L (.int j :: .ref a :: S)) rfl rfl hd _ k
theorem o_newStr (X : Stand p l e R s m args below meth c T locs cells slots) (hx : p.tables.exec = Jvm.exec) (hZ : Z.Warmed39 s.vm) {own : String} {index : Nat} (hown : s.vm.findClass own = some m.cls) (w1 : (Cond.methodLink own index (⟨"java/lang/String", "<init>", "([C)V"⟩ : MethodName)).before a0 Z = true) (w2 : (Cond.instanceMethod (⟨"java/lang/String", "<init>", "([C)V"⟩ : MethodName)).before a0 Z = true) {bytes : ByteArray} (w3 : (Cond.code (⟨"java/lang/String", "<init>", "([C)V"⟩ : MethodName) bytes 2 none).before a0 Z = true)
    (hws : ∀ d ∈ StrChars.Road.words, d.before a0 Z = true) {kI : Nat} (wi : (Cond.instantiable "java/lang/String" kI).before a0 Z = true) (eT : T.heap = h) (hsize : L.size = c.maxLocals) {x b : Addr} {kC : ClassId} {cs : List Int32} {dv v0 c0 : Value} {z N : Int32} {n n0 : Nat} (hx0 : n0 ≤ x) (O : Old Z n0 h)
    (E : Exa Z h x "java/lang/String") (V : Fld Z h x "java/lang/String" "value" "[B" v0) (C : Fld Z h x "java/lang/String" "coder" "B" c0) (K : Arv Z h b kC .char N (cs.map Value.int) dv) (St : Sta Z Z.heap "java/lang/String" "COMPACT_STRINGS" "Z" (.int z)) (hz : ¬ z = 0) (hn : cs.length = n) (hN : N = Int32.ofNat n) (l0 : 0 < n) (l2 : n ≤ 4000) (hp : ∀ c ∈ cs, ¬ c < 0 ∧ ¬ (255 : Int32) < c)
    {rest : List Value} {W : Nat} (hW : (rest.map fun v => v.category).sum = W) (hd : decode c.code pc = .ok (.invokespecial index, 3)) (hfr : 4 ≤ R.frames) (hlo : W + 65 ≤ R.locals) (hc : cells + 1 ≤ R.cells) (hs : slots + n ≤ R.slots) (hc' : cells + 1 = cells') (hs' : slots + n = slots') (hpc : pc + 3 = pc')
    (kk : ∀ T' h' Lc t kb, Stand p l e R s m args below meth c T' (locs ++ Lc) cells' slots' → T'.heap = h' → Fr n0 Lc → Keep h h' [x] → Exa Z h' x "java/lang/String" → Fld Z h' x "java/lang/String" "coder" "B" (.int 0) → h.size ≤ t → Fld Z h' x "java/lang/String" "value" "[B" (.ref t) → Arv Z h' t kb .byte N ((cs.map fun c => c.toInt8.toInt32).map Value.int) (.int 0) → Goes p.tables e below P (T'.setTop (mkF m pc' L rest))) :
    Goes p.tables e below P (T.setTop (mkF m pc L (.ref b :: .ref x :: rest))) := by
  subst hpc hc' hs'
  have pd : parseMethodDescriptor "([C)V" = some ⟨[(.array .char)], none⟩ := by decide +kernel
  obtain ⟨_, _, ⟨T1, L1, k1, n1⟩, -, X1, ⟨Lc, hQ, l1, y1, z1⟩, st⟩ := X.specialBack hx (y := (⟨"java/lang/String", "<init>", "([C)V"⟩ : MethodName)) rfl hown (mvT hZ w1) (mvT hZ w2) (mvT hZ w3) (by decide) (StrChars.Road.backV (W := W) hZ hws wi hx0 (O.1 ▸ O.2.1) E V C K (Sta.ext O.2 St) hz hn hN l0 l2 hp rfl hfr hlo) (g := mkF m pc L (.ref b :: .ref x :: rest)) rfl hsize (Steps.refl _) (a := x) (argsL := [.ref b]) (rest := rest) (lenOf pd rfl) rfl (by rw [← hW]; show 2 * 0 + _ ≤ _; omega) hd (fun _ _ => ⟨rfl, eT, hc, hs⟩)
  dsimp only [Pt.U, Pt.locs, Pt.cells, Pt.slots] at X1 l1 y1 z1 st hQ
  subst l1 y1 z1
  obtain ⟨rfl, q1, q2, q3, q4, t, kb, q5, q6, q7, q8, q9⟩ := hQ
  exact (kk _ _ _ t kb X1 rfl q1 q2 q3 q4 q6 q8 q9).to st
end Own
section Refs
variable {p : Program} {l : Launch} {e : Env} {R : Room} {s : State} {m : MethodId} {args : Array Value} {below : List Frame} {meth : Method} {c : Code} {T : State} {locs : List Loc} {cells slots cells' slots' : Nat} {Z : State} {a0 : Array Value} {h : Heap} {P : Outcome → State → Prop} {pc pc' : Nat} {L L' : Array Slot} {S : List Value}
theorem o_locs (hL : L = L') (kk : Goes p.tables e below P (T.setTop (mkF m pc L' S))) : Goes p.tables e below P (T.setTop (mkF m pc L S)) := by subst hL; exact kk
theorem o_newPE (X : Stand p l e R s m args below meth c T locs cells slots) (hx : p.tables.exec = Jvm.exec) (hZ : Z.Warmed39 s.vm) {aty : ArrayType} {ad : String} (w : (Cond.arrayClass (newarray.typeOf aty)).before a0 Z = true) (eT : T.heap = h) (hd : decode c.code pc = .ok (.newarray aty, 2)) {n : Int32} (hn : ¬ n < 0) {cap : Nat} (hcap : n.toNatClampNeg ≤ cap) (hb : cap * 8 ≤ 536870912) (hc : cells + 1 ≤ R.cells) (hl : slots + cap ≤ R.slots) (hc' : cells + 1 = cells') (hs' : slots + cap = slots') (hp : pc + 2 = pc') (had : "[" ++ (newarray.typeOf aty).toString = ad)
    (kk : ∀ T' h' k b, b = h.size → Stand p l e R s m args below meth c T' locs cells' slots' → T'.heap = h' → Ext h h' → Arr Z h' b (newA k (newarray.typeOf aty) n) (newarray.typeOf aty) → Exa Z h' b ad → Goes p.tables e below P (T'.setTop (mkF m pc' L (.ref b :: S)))) : Goes p.tables e below P (T.setTop (mkF m pc L (.int n :: S))) := by
  subst hp hc' hs'
  obtain ⟨T', h', k, X', e', E', A', D', st⟩ := newPE X hx hZ w eT (g := mkF m pc L (.int n :: S)) rfl hd rfl hn hcap hb hc hl had
  exact (kk T' h' k _ rfl X' e' E' A' D').on st
theorem o_newRA (X : Stand p l e R s m args below meth c T locs cells slots) (hx : p.tables.exec = Jvm.exec) (hZ : Z.Warmed39 s.vm) {own C ad : String} {ty : FieldType} {index : Nat} (hown : s.vm.findClass own = some m.cls) (hC : (FieldType.array ty).toString = C) (w1 : (Cond.classLink own index C).before a0 Z = true) (w2 : (Cond.arrayOver (.array ty)).before a0 Z = true) (eT : T.heap = h) (hd : decode c.code pc = .ok (.anewarray index, 3)) {n : Int32} (hn : ¬ n < 0) {cap : Nat} (hcap : n.toNatClampNeg ≤ cap) (hb : cap * 8 ≤ 536870912) (hc : cells + 1 ≤ R.cells) (hl : slots + cap ≤ R.slots) (hc' : cells + 1 = cells') (hs' : slots + cap = slots') (hp : pc + 3 = pc') (had : "[" ++ C = ad)
    (kk : ∀ T' h' k b, b = h.size → Stand p l e R s m args below meth c T' locs cells' slots' → T'.heap = h' → Ext h h' → Arr Z h' b (newA k (.array ty) n) (.array ty) → Exa Z h' b ad → OvrA Z k ty C → Goes p.tables e below P (T'.setTop (mkF m pc' L (.ref b :: S)))) : Goes p.tables e below P (T.setTop (mkF m pc L (.int n :: S))) := by
  subst hp hc' hs'
  obtain ⟨T', h', k, X', e', E', A', D', O', st⟩ := newRA X hx hZ hown hC w1 w2 eT (g := mkF m pc L (.int n :: S)) rfl hd rfl hn hcap hb hc hl had
  exact (kk T' h' k _ rfl X' e' E' A' D' O').on st
theorem o_newRE (X : Stand p l e R s m args below meth c T locs cells slots) (hx : p.tables.exec = Jvm.exec) (hZ : Z.Warmed39 s.vm) {own C ad : String} {index : Nat} (hown : s.vm.findClass own = some m.cls) (w1 : (Cond.classLink own index C).before a0 Z = true) (w2 : (Cond.arrayOver (.object C)).before a0 Z = true) (eT : T.heap = h) (hd : decode c.code pc = .ok (.anewarray index, 3)) {n : Int32} (hn : ¬ n < 0) {cap : Nat} (hcap : n.toNatClampNeg ≤ cap) (hb : cap * 8 ≤ 536870912) (hc : cells + 1 ≤ R.cells) (hl : slots + cap ≤ R.slots) (hc' : cells + 1 = cells') (hs' : slots + cap = slots') (hp : pc + 3 = pc') (had : "[" ++ (FieldType.object C).toString = ad)
    (kk : ∀ T' h' k b, b = h.size → Stand p l e R s m args below meth c T' locs cells' slots' → T'.heap = h' → Ext h h' → Arr Z h' b (newA k (.object C) n) (.object C) → Exa Z h' b ad → Ovr Z k C → Goes p.tables e below P (T'.setTop (mkF m pc' L (.ref b :: S)))) : Goes p.tables e below P (T.setTop (mkF m pc L (.int n :: S))) := by
  subst hp hc' hs'
  obtain ⟨T', h', k, X', e', E', A', D', O', st⟩ := newRE X hx hZ hown w1 w2 eT (g := mkF m pc L (.int n :: S)) rfl hd rfl hn hcap hb hc hl had
  exact (kk T' h' k _ rfl X' e' E' A' D' O').on st
theorem o_stR (X : Stand p l e R s m args below meth c T locs cells slots) (hx : p.tables.exec = Jvm.exec) (hZ : Z.Warmed39 s.vm) (eT : T.heap = h) {a : Addr} {kc : ClassId} {ty : FieldType} {z : Int32} {vs : List Value} {dv : Value} (A : Arv Z h a kc ty z vs dv) {j : Int32} {v : Value} {i : Nat} (hj : ¬ j < 0 ∧ j < z) (hi : j.toNatClampNeg = i) (hv : i < vs.length) (hty : ty.isReference = true) (hf : fits ty v = true) (F : ∀ cl, Arr Z h a cl ty → cl.cls = kc → Sto Z h a v) (hd : decode c.code pc = .ok (.aastore, 1)) (hp : pc + 1 = pc')
    (kk : ∀ T' h', Stand p l e R s m args below meth c T' (locs ++ [⟨a, i⟩]) cells slots → T'.heap = h' → Wr h h' a i v → Arv Z h' a kc ty z (vs.set i v) dv → Goes p.tables e below P (T'.setTop (mkF m pc' L S))) : Goes p.tables e below P (T.setTop (mkF m pc L (v :: .int j :: .ref a :: S))) := by
  subst hp
  obtain ⟨cl, A1, q1, S1, N1, H1, G1⟩ := A
  obtain ⟨T', h', X', e', W', st⟩ := Jvm.RoadKit.stR X hx hZ eT A1 (j := j) (v := v) (inb_of S1 hj) hty (F cl A1 q1) (g := mkF m pc L (v :: .int j :: .ref a :: S)) rfl rfl hd
  have V' := Arv.set A1 q1 S1 N1 H1 G1 hf W' i hi hv
  rw [hi] at X' W'
  exact (kk T' h' X' e' W' V').on st
theorem o_aaload (X : Stand p l e R s m args below meth c T locs cells slots) (hx : p.tables.exec = Jvm.exec) (hZ : Z.Warmed39 s.vm) (eT : T.heap = h) {a : Addr} {kc : ClassId} {ty : FieldType} {z : Int32} {vs : List Value} {dv v : Value} (A : Arv Z h a kc ty z vs dv) (hty : ty.isReference = true) {j : Int32} (hj : ¬ j < 0 ∧ j < z) (hv : vs.getD j.toNatClampNeg dv = v) (hd : decode c.code pc = .ok (.aaload, 1)) (hp : pc + 1 = pc') (kk : Goes p.tables e below P (T.setTop (mkF m pc' L (v :: S)))) : Goes p.tables e below P (T.setTop (mkF m pc L (.int j :: .ref a :: S))) := by
  subst hp
  obtain ⟨cl, A1, q1, S1, N1, H1, G1⟩ := A
  have hin := inb_of S1 hj
  exact kk.on fun _ k => X.aaload hx (j := j) (v := v) (by rw [eT]; exact A1.1) (State.isArrayOf_alike hZ.alike A1.2.1) hty A1.2.2 hin (H1.at hin hv) (g := mkF m pc L (.int j :: .ref a :: S)) rfl rfl hd _ k
theorem notFace_inst {y : MethodName} {kI : Nat} (hZ : Z.Warmed39 s.vm) (w4 : (Cond.instantiable y.cls kI).before a0 Z = true) : NotFace s y := fun mk hnamed => by
  obtain ⟨kP, hkP, -⟩ := className_of_methodNamed hnamed
  obtain ⟨c9, k9, g1, g2, g3⟩ := Cond.instantiable_spec (show (Cond.instantiable y.cls kI).holds a0 s none s [] = true from mvT (args := a0) (s := s) hZ w4)
  cases (findClass_of_methodNamed hnamed).symm.trans g1
  cases hkP.symm.trans g2
  exact ⟨_, hkP, (Bool.or_eq_false_iff.mp g3.2.1).1⟩
theorem notFace_class {C : String} {y y' : MethodName} (hc : y.cls = y'.cls) (hZ : Z.Warmed39 s.vm) (w : (Cond.selects C y' y').before a0 Z = true) : NotFace s y := fun mk hnamed => by
  have w' : (Cond.selects C y' y').before a0 s = true := mvT hZ w
  obtain ⟨c2, r2, m2, -, q2, q3, -⟩ := Cond.selects_spec w'
  obtain ⟨kr, g1, g2⟩ := notFace_of_selects w' m2 q3
  have e1 := findClass_of_methodNamed hnamed
  have e2 := findClass_of_methodNamed q3
  rw [hc] at e1
  have e3 := Option.some.inj (e1.symm.trans e2)
  exact ⟨kr, by rw [e3]; exact g1, g2⟩
theorem o_private (X : Stand p l e R s m args below meth c T locs cells slots) (hx : p.tables.exec = Jvm.exec) (hZ : Z.Warmed39 s.vm) {own C : String} {index : Nat} {y : MethodName} {bytes : ByteArray} {maxL : Nat} {ret : Option FieldType} (hown : s.vm.findClass own = some m.cls) (w1 : (Cond.methodLink own index y).before a0 Z = true) (w2 : (Cond.instanceMethod y).before a0 Z = true) (w3 : (Cond.privateMethod y).before a0 Z = true) (hnf : NotFace s y) (hy : y.cls ≠ "java/lang/invoke/MethodHandle" ∧ y.cls ≠ "java/lang/invoke/VarHandle") {a : Addr} (E : Exa Z h a C) {rm : Room} {as' : Array Value} {Q : Option Value → Heap → List Loc → Prop} (hM : Met l Z y bytes maxL ret rm [] as' h Q) (hwc : (Cond.code y bytes maxL ret).before a0 Z = true) (hwi : (Cond.initialized y.cls).before a0 Z = true) (eT : T.heap = h) (hsize : L.size = c.maxLocals) {argsL rest : List Value} {W : Nat} {ps : List FieldType} {rr : Option FieldType} (hpd : parseMethodDescriptor y.desc = some ⟨ps, rr⟩) (hlen : argsL.length = ps.length) (hst : S = argsL.reverse ++ .ref a :: rest) (has : as' = (.ref a :: argsL).toArray) (hW : (rest.map fun v => v.category).sum = W) (hd : decode c.code pc = .ok (.invokevirtual index, 3)) (hf : rm.frames + 1 ≤ R.frames) (hlo : W + (maxL + 11) + rm.locals ≤ R.locals) (hc : cells + rm.cells ≤ R.cells) (hs : slots + rm.slots ≤ R.slots) (hc' : cells + rm.cells = cells') (hs' : slots + rm.slots = slots') (hp : pc + 3 = pc')
    (kk : ∀ v T' h' Lc, Stand p l e R s m args below meth c T' (locs ++ Lc) cells' slots' → T'.heap = h' → Q v h' Lc → Goes p.tables e below P (T'.setTop (mkF m pc' L (v.toList ++ rest)))) : Goes p.tables e below P (T.setTop (mkF m pc L S)) := by
  subst hp hc' hs' hst has
  obtain ⟨cB, kq, qa, qb, cq, q1, q2, q3⟩ := isOf (T := T) hZ eT E
  have hK := backOf (R := R) (p := p) (e := e) (below := below) (s := s) (args := args) (len := 3) (W := W) hM hZ hwc hwi hf hlo
  obtain ⟨mk, methM, hnamed, hmethM, hstM, habM⟩ := Cond.instanceMethod_spec (mvT (args := args) hZ w2)
  obtain ⟨methM', cM, hmethM', -, -, -, -, -, -, hsigM⟩ := Cond.code_spec hnamed (mvT (args := args) hZ hwc)
  cases hmethM.symm.trans hmethM'
  obtain ⟨kP, hkP, -⟩ := className_of_methodNamed hnamed
  have hkPi : kP.isInterface = false := by
    obtain ⟨kr, g1, g2⟩ := hnf mk hnamed
    cases hkP.symm.trans g1
    exact g2
  have hselP : selectMethod e.platform s.vm cq.cls mk = .method mk := selectMethod_private hmethM (Cond.privateMethod_at (mvT (args := args) hZ w3) mk methM hnamed hmethM)
  obtain ⟨vm₁, X₁, hstep₁⟩ := X.invokevirtual hx hown (mvT hZ w1) hnamed hmethM hstM hkP hkPi hy (a := a) (cell := cq) q1 (fun q z => by rw [z] at q3; cases q3) hselP hmethM habM hkP hkPi (g := mkF m pc L (argsL.reverse ++ .ref a :: rest)) rfl (argsL := argsL) (rest := rest) (lenOf hpd hlen _ hsigM) rfl hd
  obtain ⟨_, ⟨T1, L1, k1, n1⟩, X1, ⟨Lc, hQ, l1, y1, z1⟩, st⟩ := hK m meth c ⟨T.setVm vm₁, locs, cells, slots⟩ (mkF m pc L rest) (.invokevirtual index) mk (.ref a :: argsL).toArray X₁ rfl hsize hd (by show 2 * 0 + (rest.map fun v => v.category).sum ≤ W; omega) (X₁.named hnamed) ⟨rfl, eT, hc, hs⟩
  dsimp only [Pt.U, Pt.locs, Pt.cells, Pt.slots] at X1 l1 y1 z1 st hQ
  subst l1 y1 z1
  exact (kk _ _ _ _ X1 rfl hQ).to ((hstep₁ _ fun acts => by rw [doInvoke_state]; exact Steps.refl _).trans st)
end Refs
section Mirr
variable {p : Program} {l : Launch} {e : Env} {R : Room} {s : State} {m : MethodId} {args : Array Value} {below : List Frame} {meth : Method} {c : Code} {T : State} {locs : List Loc} {cells slots cells' slots' : Nat} {Z : State} {a0 : Array Value} {h : Heap} {P : Outcome → State → Prop} {pc pc' : Nat} {L L' : Array Slot} {S : List Value}
theorem own_stoA {b y : Addr} {k : ClassId} {ty : FieldType} {z : Int32} {vs : List Value} {dv : Value} {C : String} (B : Arv Z h b k ty z vs dv) (O : Ovr Z k C) (I : Ins Z h y C true) : Sto Z h b (.ref y) := by
  obtain ⟨cl, A, q, -⟩ := B
  subst q
  exact Sto.of A O I
theorem own_mir {C : String} {mr : Addr} (hZ : Z.Warmed39 s.vm) (M : Mir Z C mr) : (Term.mirror C).eval args s none [] s = some (.ref mr) := by
  obtain ⟨cc, kc, m1, m2, m3, -⟩ := M
  obtain ⟨k', q, ek⟩ := hZ.alike.2.2 _ _ m2
  have f : s.vm.findClass C = some cc := by rw [hZ.alike.findClass]; exact m1
  have g : k'.mirror = some mr := by rw [ek]; exact m3
  simp [Term.eval, f, q, g]
theorem o_ldcM (X : Stand p l e R s m args below meth c T locs cells slots) (hx : p.tables.exec = Jvm.exec) (hZ : Z.Warmed39 s.vm) {own C : String} {index : Nat} {mr : Addr} (hown : s.vm.findClass own = some m.cls) (w : (Cond.classLink own index C).before a0 Z = true) (M : Mir Z C mr) (eT : T.heap = h) (hd : decode c.code pc = .ok (.ldc index, 2)) (hp : pc + 2 = pc')
    (kk : ∀ T', Stand p l e R s m args below meth c T' locs cells slots → T'.heap = h → Goes p.tables e below P (T'.setTop (mkF m pc' L (.ref mr :: S)))) : Goes p.tables e below P (T.setTop (mkF m pc L S)) := by
  subst hp
  obtain ⟨vm', X', st⟩ := X.ldcMirror hx hown (mvT hZ w) (own_mir hZ M) (g := mkF m pc L S) rfl hd
  exact (kk _ X' eT).on st
theorem o_gcls (X : Stand p l e R s m args below meth c T locs cells slots) (hx : p.tables.exec = Jvm.exec) (hZ : Z.Warmed39 s.vm) {own C : String} {index : Nat} {mr a : Addr} (hown : s.vm.findClass own = some m.cls) (w1 : (Cond.methodLink own index ⟨"java/lang/Object", "getClass", "()Ljava/lang/Class;"⟩).before a0 Z = true) (w2 : (Cond.declares ⟨"java/lang/Object", "getClass", "()Ljava/lang/Class;"⟩).before a0 Z = true) (w3 : (Cond.noSuperclass "java/lang/Object").before a0 Z = true) (w4 : (Cond.selects C ⟨"java/lang/Object", "getClass", "()Ljava/lang/Class;"⟩ ⟨"java/lang/Object", "getClass", "()Ljava/lang/Class;"⟩).before a0 Z = true) (w5 : (Cond.instanceMethod ⟨"java/lang/Object", "getClass", "()Ljava/lang/Class;"⟩).before a0 Z = true) (w6 : (Cond.native ⟨"java/lang/Object", "getClass", "()Ljava/lang/Class;"⟩).before a0 Z = true) (eT : T.heap = h) (E : Exa Z h a C) (M : Mir Z C mr) (hsize : L.size = c.maxLocals) (hd : decode c.code pc = .ok (.invokevirtual index, 3)) (hf : 1 ≤ R.frames) {W : Nat} (hW : (S.map fun v => v.category).sum = W) (hl : W + (nativeFrameWords "java/lang/Object" "getClass" 1 + 11) ≤ R.locals) (hp : pc + 3 = pc')
    (kk : ∀ T', Stand p l e R s m args below meth c T' locs cells slots → T'.heap = h → Goes p.tables e below P (T'.setTop (mkF m pc' L (.ref mr :: S)))) : Goes p.tables e below P (T.setTop (mkF m pc L (.ref a :: S))) := by
  subst hp
  obtain ⟨T', X', e', st⟩ := gcls X hx hZ hown w1 w2 w3 w4 w5 w6 eT E M (g := mkF m pc L (.ref a :: S)) rfl hsize rfl hd hf (W := W) (by rw [← hW]; show 2 * 0 + _ ≤ _; omega) hl
  exact (kk T' X' e').on st
theorem o_acopyR (X : Stand p l e R s m args below meth c T locs cells slots) (hx : p.tables.exec = Jvm.exec) (hZ : Z.Warmed39 s.vm) {own : String} {index : Nat} (hown : s.vm.findClass own = some m.cls) (w1 : (Cond.methodLink own index Jvm.Stand.acN).before a0 Z = true) (w2 : (Cond.native Jvm.Stand.acN).before a0 Z = true) (w3 : (Cond.static Jvm.Stand.acN).before a0 Z = true) (w4 : (Cond.initialized "java/lang/System").before a0 Z = true) (eT : T.heap = h) {a b : Addr} {k k' : ClassId} {ty ty' : FieldType} {z z' sp dp nn : Int32} {vs vd us vd' : List Value} {dv dd : Value} {n0 : Nat}
    (A : Arv Z h a k ty z vs dv) (B : Arv Z h b k' ty' z' vd dd) (hty : refKind ty = true ∧ refKind ty' = true) (hst : StoL Z h b us) (h1 : ¬ sp < 0 ∧ ¬ dp < 0 ∧ ¬ nn < 0) (h4 : sp.toNatClampNeg + nn.toNatClampNeg ≤ z.toNatClampNeg) (h5 : dp.toNatClampNeg + nn.toNatClampNeg ≤ z'.toNatClampNeg) (hus : us = (List.range nn.toNatClampNeg).map fun i => vs.getD (sp.toNatClampNeg + i) dv) (hl : dp.toNatClampNeg + nn.toNatClampNeg ≤ vd.length) (hvd : vd.take dp.toNatClampNeg ++ us ++ vd.drop (dp.toNatClampNeg + nn.toNatClampNeg) = vd') (N : Fr n0 locs) (ge : n0 ≤ b) (hsize : L.size = c.maxLocals) (hd : decode c.code pc = .ok (.invokestatic index, 3)) (hf : 1 ≤ R.frames) {W : Nat} (hW : (S.map fun v => v.category).sum = W) (hlo : W + (nativeFrameWords "java/lang/System" "arraycopy" 5 + 11) ≤ R.locals) (hp : pc + 3 = pc')
    (kk : ∀ T' h' Lc, Stand p l e R s m args below meth c T' Lc cells slots → T'.heap = h' → Fr n0 Lc → Keep h h' [b] → Arv Z h' b k' ty' z' vd' dd → Goes p.tables e below P (T'.setTop (mkF m pc' L S))) : Goes p.tables e below P (T.setTop (mkF m pc L (.int nn :: .int dp :: .ref b :: .int sp :: .ref a :: S))) := by
  subst hp hvd
  obtain ⟨T', h', L', X', e', N', K', A', st⟩ := cpA X hx hZ hown w1 w2 w3 w4 eT A B (Or.inr ⟨hty.1, hty.2, hst⟩) h1.1 h1.2.1 h1.2.2 h4 h5 hus hl N ge (g := mkF m pc L (.int nn :: .int dp :: .ref b :: .int sp :: .ref a :: S)) rfl hsize rfl hd hf (W := W) (by rw [← hW]; show 2 * 0 + _ ≤ _; omega) hlo
  exact (kk T' h' L' X' e' N' K' A').on st
end Mirr
def EndsW (s : State) (Q : Option Value → Heap → List Loc → Prop) (C S : Nat) (o : Outcome) (U : State) : Prop := ∃ v L, o = .returned v ∧ Q v U.heap L ∧ ReturnedEndW s o U L C S
def MetW (l : Launch) (Z : State) (y : MethodName) (bytes : ByteArray) (maxL : Nat) (ret : Option FieldType) (rm : Room) (ws : List Jvm.Cond) (as' : Array Value) (h0 : Heap) (Q : Option Value → Heap → List Loc → Prop) : Prop :=
  MetFree l y (head1 (Jvm.Cond.code y bytes maxL ret :: ws) rm) (fun a U => a = as' ∧ Z.Warmed39 U.vm ∧ U.heap = h0) (fun _ _ _ _ _ => True) (fun _ U o U' => ∃ v L, o = .returned v ∧ Q v U'.heap L ∧ ReturnedEndW U o U' L rm.cells rm.slots)
/-- the walk's base: the start, its tables warmer -/
def Base (s s' : State) (h : Heap) : Prop := ∃ vm k, s' = s.setVm vm ∧ s.Since vm k ∧ k ≤ h.size
theorem Base.start (s : State) (h : Heap) : Base s s h := ⟨s.vm, 0, (State.setVm_self s).symm, (State.WarmedH.refl s).since 0, Nat.zero_le _⟩
theorem Base.up {s s' : State} {h h' : Heap} (B : Base s s' h) (q : h.size ≤ h'.size) : Base s s' h' := by
  obtain ⟨vm, k, a, b, c⟩ := B
  exact ⟨vm, k, a, b, Nat.le_trans c q⟩
section Wide
variable {p : Program} {l : Launch} {e : Env} {R : Room} {s s' : State} {m : MethodId} {args : Array Value} {below : List Frame} {meth : Method} {c : Code} {T : State} {locs : List Loc} {cells slots cells' slots' : Nat} {Z : State} {a0 : Array Value} {h : Heap} {P : Outcome → State → Prop} {pc pc' : Nat} {L L' : Array Slot} {S : List Value}
theorem metW_of {y : MethodName} {bytes : ByteArray} {maxL : Nat} {ret : Option FieldType} {rm : Room} {ws : List Jvm.Cond} {as' : Array Value} {h0 : Heap} {Q : Option Value → Heap → List Loc → Prop} {L0 : Array Slot}
    (hpn : plainFor y = true) (hef : ∀ m, entryFrame m as' maxL = mkF m 0 L0 [])
    (body : ∀ (p : Program) (e : Env) (s : State) (m : MethodId) (below : List Frame) (meth : Method) (c : Code) (T : State), p.tables.exec = Jvm.exec → c.code = bytes → c.maxLocals = maxL → s.vm.findClass y.cls = some m.cls → meth.name = y.name → meth.sig.returnType = ret → meth.locks = false → Z.Warmed39 s.vm → Stand p l e rm s m as' below meth c T [] 0 0 → T.heap = h0 → Goes p.tables e below (EndsW s Q rm.cells rm.slots) (T.setTop (mkF m 0 L0 []))) :
    MetW l Z y bytes maxL ret rm ws as' h0 Q := by
  refine MetFree.of_bodySF hpn hisR ?_
  intro p e s m args below meth c s₁ Bd hml0 hP hK
  obtain ⟨rfl, hZ, hh⟩ := hP
  have e0 : s₁.heap = h0 := by rw [← hh, Bd.state]; rfl
  obtain ⟨s₂, o, h1, h2, h3, h4⟩ := body p e s m below meth c s₁ Bd.exec Bd.bytes hml0 (findClass_of_methodNamed Bd.named) (name_of_methodNamed Bd.named Bd.method).1 Bd.returns (BodyLoose.notSynchronized Bd) hZ (Stand.of_body Bd) e0
  exact ⟨s₂, o, castTop (hef m) h1, h2, h3, h4⟩
theorem o_retW (X : Stand p l e R s' m args below meth c T locs cells slots) (hx : p.tables.exec = Jvm.exec) (hlk : meth.locks = false) {w : Value} {t : FieldType} {i : Instr} {Q : Option Value → Heap → List Loc → Prop} {C Sl : Nat} (hret : meth.sig.returnType = some t) (hn : narrow t w = w)
    (hi : (i = .ireturn ∧ (t = .int ∨ t = .boolean ∨ t = .byte ∨ t = .char ∨ t = .short) ∧ ∃ z, w = .int z) ∨ (i = .lreturn ∧ t = .long ∧ ∃ z, w = .long z) ∨ (i = .dreturn ∧ t = .double ∧ ∃ z, w = .double z) ∨ (i = .freturn ∧ t = .float ∧ ∃ z, w = .float z) ∨ (i = .areturn ∧ t.isReference = true ∧ w.isRef = true))
    (hd : decode c.code pc = .ok (i, 1)) (hC : cells ≤ C) (hS : slots ≤ Sl) (eT : T.heap = h) (B : Base s s' h) (hq : Q (some w) h locs) : Goes p.tables e below (EndsW s Q C Sl) (T.setTop (mkF m pc L (w :: S))) := by
  subst eT
  obtain ⟨vm, k, rfl, hSi, hk⟩ := B
  obtain ⟨fs, hr, hrun, hended, hE⟩ := X.leaveW hSi hk (v := some w) (fun h => by rw [hret] at h; cases h) hlk
  exact ⟨_, _, retOut X hx hret hn hi hd hr, hrun, hended, _, _, rfl, hq, hE.1, hE.2.1, hE.2.2.1, hE.2.2.2.mono hC hS⟩
theorem o_retVW (X : Stand p l e R s' m args below meth c T locs cells slots) (hx : p.tables.exec = Jvm.exec) (hlk : meth.locks = false) {Q : Option Value → Heap → List Loc → Prop} {C Sl : Nat} (hret : meth.sig.returnType = none) (hd : decode c.code pc = .ok (.return_, 1)) (hC : cells ≤ C) (hS : slots ≤ Sl) (eT : T.heap = h) (B : Base s s' h) (hq : Q none h locs) :
    Goes p.tables e below (EndsW s Q C Sl) (T.setTop (mkF m pc L [])) := by
  subst eT
  obtain ⟨vm, k, rfl, hSi, hk⟩ := B
  obtain ⟨fs, hr, hrun, hended, hE⟩ := X.leaveW hSi hk (v := none) (fun _ => rfl) hlk
  exact ⟨_, _, X.returnOut hx hret hd hr, hrun, hended, _, _, rfl, hq, hE.1, hE.2.1, hE.2.2.1, hE.2.2.2.mono hC hS⟩
theorem o_ldcS (X : Stand p l e R s' m args below meth c T locs cells slots) (hx : p.tables.exec = Jvm.exec) (hZ : Z.Warmed39 s'.vm) {own text : String} {index : Nat} (hown : s'.vm.findClass own = some m.cls) (w : (Cond.stringLink own index text).before a0 Z = true) (wS : ∀ a ∈ Bundle.stringAtoms, a.before a0 Z = true) (eT : T.heap = h) (B : Base s s' h) (hd : decode c.code pc = .ok (.ldc index, 2)) {n : Nat} (hn : 4 * text.toList.length ≤ n) (hbig : n ≤ 536870912) (hc : cells + 2 ≤ R.cells) (hl : slots + (n + 4) ≤ R.slots) (hc' : cells + 2 = cells') (hs' : slots + (n + 4) = slots') (hp : pc + 2 = pc')
    (kk : ∀ s2 T' h' a, Stand p l e R s2 m args below meth c T' locs cells' slots' → T'.heap = h' → Ext h h' → Base s s2 h' → Z.Warmed39 s2.vm → s2.vm.findClass own = some m.cls → Goes p.tables e below P (T'.setTop (mkF m pc' L (.ref a :: S)))) : Goes p.tables e below P (T.setTop (mkF m pc L S)) := by
  subst hp hc' hs'
  obtain ⟨vm, k, rfl, hSi, hk⟩ := B
  obtain ⟨a, T', h', k1, X', e', E', hS', hk', hZ', ho', st⟩ := ldcS X hx hZ hown w wS eT hSi hk (g := mkF m pc L S) rfl hd hn hbig hc hl
  exact (kk _ T' h' a X' e' E' ⟨_, _, rfl, hS', hk'⟩ hZ' ho').on st
theorem o_staticW (X : Stand p l e R s' m args below meth c T locs cells slots) (hx : p.tables.exec = Jvm.exec) (hZ : Z.Warmed39 s'.vm) {own : String} {index : Nat} {y : MethodName} {bytes : ByteArray} {maxL : Nat} {ret : Option FieldType} (hown : s'.vm.findClass own = some m.cls) (w1 : (Cond.methodLink own index y).before a0 Z = true) (w2 : (Cond.static y).before a0 Z = true) (hy : y.cls ≠ "java/lang/invoke/MethodHandle" ∧ y.cls ≠ "java/lang/invoke/VarHandle") {rm : Room} {as' : Array Value} {Q : Option Value → Heap → List Loc → Prop} (hM : MetW l Z y bytes maxL ret rm [] as' h Q) (hwc : (Cond.code y bytes maxL ret).before a0 Z = true) (hwi : (Cond.initialized y.cls).before a0 Z = true) (eT : T.heap = h) (B : Base s s' h) (hsize : L.size = c.maxLocals) {argsL rest : List Value} {W : Nat} {ps : List FieldType} {rr : Option FieldType} (hpd : parseMethodDescriptor y.desc = some ⟨ps, rr⟩) (hlen : argsL.length = ps.length) (hst : S = argsL.reverse ++ rest) (has : as' = (argsL).toArray) (hW : (rest.map fun v => v.category).sum = W) (hd : decode c.code pc = .ok (.invokestatic index, 3)) (hf : rm.frames + 1 ≤ R.frames) (hlo : W + (maxL + 11) + rm.locals ≤ R.locals) (hc : cells + rm.cells ≤ R.cells) (hs : slots + rm.slots ≤ R.slots) (hc' : cells + rm.cells = cells') (hs' : slots + rm.slots = slots') (hp : pc + 3 = pc')
    (kk : ∀ v s2 T' h' Lc, Stand p l e R s2 m args below meth c T' (locs ++ Lc) cells' slots' → T'.heap = h' → h.size ≤ h'.size → Base s s2 h' → Z.Warmed39 s2.vm → s2.vm.findClass own = some m.cls → Q v h' Lc → Goes p.tables e below P (T'.setTop (mkF m pc' L (v.toList ++ rest)))) : Goes p.tables e below P (T.setTop (mkF m pc L S)) := by
  subst hp hc' hs' hst has
  obtain ⟨vm, k, rfl, hSi, hk⟩ := B
  obtain ⟨v1, _, ⟨T1, L1, k1, n1⟩, -, X1, hS1, hg1, ⟨Lc, hQ, l1, y1, z1⟩, st⟩ := callSS X hx hown (mvT hZ w1) (mvT hZ w2) (mvT hZ hwi) (mvT hZ hwc) hy (backOfS (W := W) hM hZ hwc hwi hf hlo) (g := mkF m pc L (argsL.reverse ++ rest)) rfl hsize (argsL := argsL) (rest := rest) (lenOf hpd hlen) rfl (by rw [← hW]; show 2 * 0 + _ ≤ _; omega) hd (fun _ _ => ⟨rfl, eT, hc, hs⟩)
  dsimp only [Pt.U, Pt.locs, Pt.cells, Pt.slots] at X1 l1 y1 z1 st hQ hS1 hg1
  subst l1 y1 z1
  subst eT
  exact (kk v1 (s.setVm T1.vm) T1 _ Lc X1 rfl hg1 ⟨_, _, rfl, hSi.trans hS1 (Nat.le_trans hk hg1), Nat.le_refl _⟩ (State.Warmed39.trans (t := s.setVm vm) hZ hS1.1) (by rw [show (s.setVm T1.vm).vm = T1.vm from rfl, hS1.1.alike.findClass]; exact hown) hQ).to st
theorem o_specialW (X : Stand p l e R s' m args below meth c T locs cells slots) (hx : p.tables.exec = Jvm.exec) (hZ : Z.Warmed39 s'.vm) {own : String} {index : Nat} {y : MethodName} {bytes : ByteArray} {maxL : Nat} {ret : Option FieldType} (hr : ret = none) (hy1 : y.name = "<init>") (hown : s'.vm.findClass own = some m.cls) (w1 : (Cond.methodLink own index y).before a0 Z = true) (w2 : (Cond.instanceMethod y).before a0 Z = true) (hy : y.cls ≠ "java/lang/invoke/MethodHandle" ∧ y.cls ≠ "java/lang/invoke/VarHandle") {a : Addr} {rm : Room} {as' : Array Value} {Q : Option Value → Heap → List Loc → Prop} (hM : MetW l Z y bytes maxL ret rm [] as' h Q) (hwc : (Cond.code y bytes maxL ret).before a0 Z = true) (hwi : (Cond.initialized y.cls).before a0 Z = true) (eT : T.heap = h) (B : Base s s' h) (hsize : L.size = c.maxLocals) {argsL rest : List Value} {W : Nat} {ps : List FieldType} {rr : Option FieldType} (hpd : parseMethodDescriptor y.desc = some ⟨ps, rr⟩) (hlen : argsL.length = ps.length) (hst : S = argsL.reverse ++ .ref a :: rest) (has : as' = (.ref a :: argsL).toArray) (hW : (rest.map fun v => v.category).sum = W) (hd : decode c.code pc = .ok (.invokespecial index, 3)) (hf : rm.frames + 1 ≤ R.frames) (hlo : W + (maxL + 11) + rm.locals ≤ R.locals) (hc : cells + rm.cells ≤ R.cells) (hs : slots + rm.slots ≤ R.slots) (hc' : cells + rm.cells = cells') (hs' : slots + rm.slots = slots') (hp : pc + 3 = pc')
    (kk : ∀ v s2 T' h' Lc, Stand p l e R s2 m args below meth c T' (locs ++ Lc) cells' slots' → T'.heap = h' → h.size ≤ h'.size → Base s s2 h' → Z.Warmed39 s2.vm → s2.vm.findClass own = some m.cls → Q v h' Lc → Goes p.tables e below P (T'.setTop (mkF m pc' L (v.toList ++ rest)))) : Goes p.tables e below P (T.setTop (mkF m pc L S)) := by
  subst hp hc' hs' hst has hr
  obtain ⟨vm, k, rfl, hSi, hk⟩ := B
  obtain ⟨v1, _, ⟨T1, L1, k1, n1⟩, -, X1, hS1, hg1, ⟨Lc, hQ, l1, y1, z1⟩, st⟩ := X.specialBackS hx hy1 hown (mvT hZ w1) (mvT hZ w2) (mvT hZ hwc) hy (backOfS (W := W) hM hZ hwc hwi hf hlo) (g := mkF m pc L (argsL.reverse ++ .ref a :: rest)) rfl hsize (Steps.refl _) (a := a) (argsL := argsL) (rest := rest) (lenOf hpd hlen) rfl (by rw [← hW]; show 2 * 0 + _ ≤ _; omega) hd (fun _ _ => ⟨rfl, eT, hc, hs⟩)
  dsimp only [Pt.U, Pt.locs, Pt.cells, Pt.slots] at X1 l1 y1 z1 st hQ hS1 hg1
  subst l1 y1 z1
  subst eT
  exact (kk v1 (s.setVm T1.vm) T1 _ Lc X1 rfl hg1 ⟨_, _, rfl, hSi.trans hS1 (Nat.le_trans hk hg1), Nat.le_refl _⟩ (State.Warmed39.trans (t := s.setVm vm) hZ hS1.1) (by rw [show (s.setVm T1.vm).vm = T1.vm from rfl, hS1.1.alike.findClass]; exact hown) hQ).to st
end Wide
def HB (Z : State) (EL : List (String × Nat)) (s s' : State) (h0 h : Heap) : Prop := ∃ vm k, s' = s.setVm vm ∧ s.Since vm k ∧ k ≤ h.size ∧ CHr Z EL s.vm h0 vm h
def EndsH (Z : State) (EL : List (String × Nat)) (s : State) (h0 : Heap) (Q : Option Value → Heap → List Loc → Prop) (C S : Nat) (o : Outcome) (U : State) : Prop := ∃ v L, o = .returned v ∧ Q v U.heap L ∧ CHr Z EL s.vm h0 U.vm U.heap ∧ ReturnedEndW s o U L C S
def MetH (l : Launch) (Z : State) (EL : List (String × Nat)) (y : MethodName) (bytes : ByteArray) (maxL : Nat) (ret : Option FieldType) (rm : Room) (ws : List Jvm.Cond) (as' : Array Value) (h0 : Heap) (sl : List Addr) (Q : Option Value → Heap → List Loc → Prop) : Prop :=
  MetFree l y (head1 (Jvm.Cond.code y bytes maxL ret :: ws) rm) (fun a U => a = as' ∧ Z.Warmed39 U.vm ∧ U.heap = h0 ∧ CHv Z EL U.vm h0 ∧ ∀ x ∈ sl, Safe Z EL U.vm h0 x) (fun _ _ _ _ _ => True) (fun _ U o U' => ∃ v L, o = .returned v ∧ Q v U'.heap L ∧ CHr Z EL U.vm h0 U'.vm U'.heap ∧ ReturnedEndW U o U' L rm.cells rm.slots)
section HeldF
variable {s' : State} {EL : List (String × Nat)} {vm0 : Vm} {h0 : Heap} {sl : List Addr}
variable {p : Program} {l : Launch} {e : Env} {R : Room} {s : State} {m : MethodId} {args : Array Value} {below : List Frame} {meth : Method} {c : Code} {T : State} {locs : List Loc} {cells slots cells' slots' : Nat} {Z : State} {a0 : Array Value} {h : Heap} {P : Outcome → State → Prop} {pc pc' : Nat} {L L' : Array Slot} {S : List Value}
theorem HB.start (H : CHv Z EL s.vm h0) : HB Z EL s s h0 h0 := ⟨s.vm, 0, (State.setVm_self s).symm, (State.WarmedH.refl s).since 0, Nat.zero_le _, CHr.refl H⟩
theorem HB.ch (B : HB Z EL s s' h0 h) : CHv Z EL s'.vm h := by obtain ⟨vm, k, rfl, -, -, A⟩ := B; exact A.1
theorem HB.ext {h' : Heap} (B : HB Z EL s s' h0 h) (E : Ext h h') : HB Z EL s s' h0 h' := by obtain ⟨vm, k, a, b, c, A⟩ := B; exact ⟨vm, k, a, b, Nat.le_trans c E.1, A.trans (CHr.ext E A.1)⟩
theorem HB.keep {h' : Heap} {ws : List Addr} (B : HB Z EL s s' h0 h) (K : Keep h h' ws) (hs : ∀ x ∈ ws, Safe Z EL s'.vm h x) : HB Z EL s s' h0 h' := by obtain ⟨vm, k, rfl, b, c, A⟩ := B; exact ⟨vm, k, rfl, b, Nat.le_trans c K.1, A.trans (CHr.keep K hs A.1)⟩
theorem HB.wr {h' : Heap} {a : Addr} {i : Nat} {v : Value} (B : HB Z EL s s' h0 h) (W : Wr h h' a i v) (S : Safe Z EL s'.vm h a) : HB Z EL s s' h0 h' := by obtain ⟨vm, k, rfl, b, c, A⟩ := B; have q := CHr.wr W S A.1; exact ⟨vm, k, rfl, b, Nat.le_trans c q.2.1, A.trans q⟩
theorem own_sfE {h' : Heap} {x : Addr} (H : CHv Z EL vm0 h) (E : Ext h h') (S : Safe Z EL vm0 h x) : Safe Z EL vm0 h' x := fun B => S ((H.step fun _ _ _ q => E.2 _ _ q).2 _ B)
theorem own_sfK {h' : Heap} {x : Addr} {ws : List Addr} (H : CHv Z EL vm0 h) (K : Keep h h' ws) (hs : ∀ x ∈ ws, Safe Z EL vm0 h x) (S : Safe Z EL vm0 h x) : Safe Z EL vm0 h' x := fun B => S ((H.keepStep K hs).2 _ B)
theorem own_sfW {h' : Heap} {x a : Addr} {i : Nat} {v : Value} (H : CHv Z EL vm0 h) (W : Wr h h' a i v) (Sa : Safe Z EL vm0 h a) (S : Safe Z EL vm0 h x) : Safe Z EL vm0 h' x := fun B => S ((H.wrStep W Sa).2 _ B)
theorem sl0 {P : Addr → Prop} : ∀ x ∈ ([] : List Addr), P x := fun _ h => by cases h
theorem slS {P : Addr → Prop} {a : Addr} {L : List Addr} (h : P a) (t : ∀ x ∈ L, P x) : ∀ x ∈ a :: L, P x := fun x hx => by rcases List.mem_cons.mp hx with rfl | q; exact h; exact t x q
theorem metH_of {y : MethodName} {bytes : ByteArray} {maxL : Nat} {ret : Option FieldType} {rm : Room} {ws : List Jvm.Cond} {as' : Array Value} {Q : Option Value → Heap → List Loc → Prop} {L0 : Array Slot}
    (hpn : plainFor y = true) (hef : ∀ m, entryFrame m as' maxL = mkF m 0 L0 [])
    (body : ∀ (p : Program) (e : Env) (s : State) (m : MethodId) (below : List Frame) (meth : Method) (c : Code) (T : State), p.tables.exec = Jvm.exec → c.code = bytes → c.maxLocals = maxL → s.vm.findClass y.cls = some m.cls → meth.name = y.name → meth.sig.returnType = ret → meth.locks = false → Z.Warmed39 s.vm → HB Z EL s s h0 h0 → (∀ x ∈ sl, Safe Z EL s.vm h0 x) → Stand p l e rm s m as' below meth c T [] 0 0 → T.heap = h0 → Goes p.tables e below (EndsH Z EL s h0 Q rm.cells rm.slots) (T.setTop (mkF m 0 L0 []))) :
    MetH l Z EL y bytes maxL ret rm ws as' h0 sl Q := by
  refine MetFree.of_bodySF hpn hisR ?_
  intro p e s m args below meth c s₁ Bd hml0 hP hK
  obtain ⟨rfl, hZ, hh, hH, hS⟩ := hP
  have e0 : s₁.heap = h0 := by rw [← hh, Bd.state]; rfl
  obtain ⟨s₂, o, h1, h2, h3, h4⟩ := body p e s m below meth c s₁ Bd.exec Bd.bytes hml0 (findClass_of_methodNamed Bd.named) (name_of_methodNamed Bd.named Bd.method).1 Bd.returns (BodyLoose.notSynchronized Bd) hZ (HB.start hH) hS (Stand.of_body Bd) e0
  exact ⟨s₂, o, castTop (hef m) h1, h2, h3, h4⟩
theorem backOfH {y : MethodName} {bytes : ByteArray} {maxL : Nat} {ret : Option FieldType} {rm : Room} {len W : Nat} {as' : Array Value} {Q : Option Value → Heap → List Loc → Prop}
    (hM : MetH l Z EL y bytes maxL ret rm [] as' h sl Q) (hZ : Z.Warmed39 vm0) (wc : (Cond.code y bytes maxL ret).before a0 Z = true) (wz : (Cond.initialized y.cls).before a0 Z = true) (hf : rm.frames + 1 ≤ R.frames) (hl : W + (maxL + 11) + rm.locals ≤ R.locals) (hEL : EW Z a0 EL) (H : CHv Z EL vm0 h) (hlt : ∀ x ∈ sl, x < h.size) (hS : ∀ x ∈ sl, Safe Z EL vm0 h x) :
    BackS l R p e below (s.setVm vm0) args y len W (fun A a => a = as' ∧ A.U.heap = h ∧ A.cells + rm.cells ≤ R.cells ∧ A.slots + rm.slots ≤ R.slots)
      (fun A _ v B => ∃ L, Q v B.U.heap L ∧ B.locs = A.locs ++ L ∧ B.cells = A.cells + rm.cells ∧ B.slots = A.slots + rm.slots ∧ CHr Z EL vm0 h B.U.vm B.U.heap) := by
  refine BackS.of_freeW (bytes := bytes) (maxL := maxL) (ret := ret) (E := fun _ first o t L k n => k = rm.cells ∧ n = rm.slots ∧ (∃ v, o = .returned v ∧ Q v t.heap L) ∧ CHr Z EL first.vm h t.vm t.heap) hM hf hl ?_ ?_ ?_ ?_ ?_
  · intro m meth c A a Y hp
    have hU : Z.Warmed39 A.U.vm := wtrans (s := s.setVm vm0) hZ Y.warmed
    exact ⟨by show (Cond.and _ .tt).before a A.U = true; rw [Cond.before_and, mvT hU wc]; rfl, mvT hU wc, mvT hU wz, hp.2.2.1, hp.2.2.2⟩
  · intro m meth c A a g mk Y hp
    have q := CHv.at Y hZ hEL H
    exact ⟨hp.1, wtrans (s := s.setVm vm0) hZ Y.warmed, hp.2.1, q.1, fun x hx => q.safe (hlt x hx) (hS x hx)⟩
  · intros; trivial
  · rintro a first o t ⟨v, L, h1, h2, h3, h4⟩
    exact ⟨L, _, _, h4, rfl, rfl, ⟨v, h1, h2⟩, h3⟩
  · rintro m meth c A a g mk v t L k n Y hp - - ⟨e1, e2, ⟨v', e3, e4⟩, e5⟩
    cases e3; subst e1 e2
    exact ⟨L, e4, rfl, rfl, rfl, (CHv.at Y hZ hEL H).trans e5⟩
theorem o_retH (X : Stand p l e R s' m args below meth c T locs cells slots) (hx : p.tables.exec = Jvm.exec) (hlk : meth.locks = false) {w : Value} {t : FieldType} {i : Instr} {Q : Option Value → Heap → List Loc → Prop} {C Sl : Nat} (hret : meth.sig.returnType = some t) (hn : narrow t w = w)
    (hi : (i = .ireturn ∧ (t = .int ∨ t = .boolean ∨ t = .byte ∨ t = .char ∨ t = .short) ∧ ∃ z, w = .int z) ∨ (i = .lreturn ∧ t = .long ∧ ∃ z, w = .long z) ∨ (i = .dreturn ∧ t = .double ∧ ∃ z, w = .double z) ∨ (i = .freturn ∧ t = .float ∧ ∃ z, w = .float z) ∨ (i = .areturn ∧ t.isReference = true ∧ w.isRef = true))
    (hd : decode c.code pc = .ok (i, 1)) (hC : cells ≤ C) (hS : slots ≤ Sl) (eT : T.heap = h) (hZ : Z.Warmed39 s'.vm) (hEL : EW Z a0 EL) (B : HB Z EL s s' h0 h) (hq : Q (some w) h locs) : Goes p.tables e below (EndsH Z EL s h0 Q C Sl) (T.setTop (mkF m pc L (w :: S))) := by
  subst eT
  obtain ⟨vm, k, rfl, hSi, hk, A⟩ := B
  obtain ⟨fs, hr, hrun, hended, hE⟩ := X.leaveW hSi hk (v := some w) (fun h => by rw [hret] at h; cases h) hlk
  have C' : CHr Z EL s.vm h0 T.vm T.heap := A.trans (CHv.at X hZ hEL A.1)
  exact ⟨_, _, retOut X hx hret hn hi hd hr, hrun, hended, _, _, rfl, hq, C', hE.1, hE.2.1, hE.2.2.1, hE.2.2.2.mono hC hS⟩
theorem o_retVH (X : Stand p l e R s' m args below meth c T locs cells slots) (hx : p.tables.exec = Jvm.exec) (hlk : meth.locks = false) {Q : Option Value → Heap → List Loc → Prop} {C Sl : Nat} (hret : meth.sig.returnType = none) (hd : decode c.code pc = .ok (.return_, 1)) (hC : cells ≤ C) (hS : slots ≤ Sl) (eT : T.heap = h) (hZ : Z.Warmed39 s'.vm) (hEL : EW Z a0 EL) (B : HB Z EL s s' h0 h) (hq : Q none h locs) :
    Goes p.tables e below (EndsH Z EL s h0 Q C Sl) (T.setTop (mkF m pc L [])) := by
  subst eT
  obtain ⟨vm, k, rfl, hSi, hk, A⟩ := B
  obtain ⟨fs, hr, hrun, hended, hE⟩ := X.leaveW hSi hk (v := none) (fun _ => rfl) hlk
  have C' : CHr Z EL s.vm h0 T.vm T.heap := A.trans (CHv.at X hZ hEL A.1)
  exact ⟨_, _, X.returnOut hx hret hd hr, hrun, hended, _, _, rfl, hq, C', hE.1, hE.2.1, hE.2.2.1, hE.2.2.2.mono hC hS⟩
theorem o_ldcF (X : Stand p l e R s' m args below meth c T locs cells slots) (hx : p.tables.exec = Jvm.exec) (hZ : Z.Warmed39 s'.vm) {own text : String} {index : Nat} (hown : s'.vm.findClass own = some m.cls) (w : (Cond.stringLink own index text).before a0 Z = true) (wS : ∀ a ∈ Bundle.stringAtoms, a.before a0 Z = true) (eT : T.heap = h) (B : HB Z EL s s' h0 h) (hEL : EW Z a0 EL) (hmem : (own, index) ∈ EL) {vs : List Value} {z : Int32} (ht : (∀ c ∈ text.toList, c.toNat < 256) ∧ text.toList.map (fun c => Value.int (Jvm.Lit.byteI c.toNat.toUInt16)) = vs) (hz : ¬ z < 0) (hvl : z.toNatClampNeg = vs.length) (hd : decode c.code pc = .ok (.ldc index, 2)) {n : Nat} (hn : 4 * text.toList.length ≤ n) (hbig : n ≤ 536870912) (hc : cells + 2 ≤ R.cells) (hl : slots + (n + 4) ≤ R.slots) (hc' : cells + 2 = cells') (hs' : slots + (n + 4) = slots') (hp : pc + 2 = pc')
    (kk : ∀ s2 T' h' a b k, Stand p l e R s2 m args below meth c T' locs cells' slots' → T'.heap = h' → Ext h h' → HB Z EL s s2 h0 h' → Z.Warmed39 s2.vm → s2.vm.findClass own = some m.cls → Exa Z h' a "java/lang/String" → Fld Z h' a "java/lang/String" "coder" "B" (.int 0) → Fld Z h' a "java/lang/String" "value" "[B" (.ref b) → Arv Z h' b k .byte z vs (.int 0) → (∀ x, x < h.size → Safe Z EL s'.vm h x → Safe Z EL s2.vm h' x) → (∀ x, x < h.size → Safe Z EL s'.vm h x → x ≠ a ∧ x ≠ b) → Goes p.tables e below P (T'.setTop (mkF m pc' L (.ref a :: S)))) : Goes p.tables e below P (T.setTop (mkF m pc L S)) := by
  subst hp hc' hs'
  obtain ⟨vm, k, rfl, hSi, hk, A⟩ := B
  obtain ⟨a, T', h', k1, b, kb, X', e', E', hS', hk', hZ', ho', Ea, Fc, Fv, Ab, -, -, C', -, hs', st⟩ := ldcCH X hx hZ hown w wS eT hSi hk hEL hmem A.1 ht hz hvl (g := mkF m pc L S) rfl hd hn hbig hc hl
  exact (kk _ T' h' a b kb X' e' E' ⟨_, _, rfl, hS', hk', A.trans C'⟩ hZ' ho' Ea Fc Fv Ab (fun x hx hs => C'.safe hx hs) (fun x hx hs => hs' x (C'.safe hx hs))).on st
theorem o_staticF (X : Stand p l e R s' m args below meth c T locs cells slots) (hx : p.tables.exec = Jvm.exec) (hZ : Z.Warmed39 s'.vm) {own : String} {index : Nat} {y : MethodName} {bytes : ByteArray} {maxL : Nat} {ret : Option FieldType} (hown : s'.vm.findClass own = some m.cls) (w1 : (Cond.methodLink own index y).before a0 Z = true) (w2 : (Cond.static y).before a0 Z = true) (hy : y.cls ≠ "java/lang/invoke/MethodHandle" ∧ y.cls ≠ "java/lang/invoke/VarHandle") {rm : Room} {as' : Array Value} {Q : Option Value → Heap → List Loc → Prop} (hM : MetH l Z EL y bytes maxL ret rm [] as' h sl Q) (hwc : (Cond.code y bytes maxL ret).before a0 Z = true) (hwi : (Cond.initialized y.cls).before a0 Z = true) (eT : T.heap = h) (B : HB Z EL s s' h0 h) (hEL : EW Z a0 EL) (hlt : ∀ x ∈ sl, x < h.size) (hSf : ∀ x ∈ sl, Safe Z EL s'.vm h x) (hsize : L.size = c.maxLocals) {argsL rest : List Value} {W : Nat} {ps : List FieldType} {rr : Option FieldType} (hpd : parseMethodDescriptor y.desc = some ⟨ps, rr⟩) (hlen : argsL.length = ps.length) (hst : S = argsL.reverse ++ rest) (has : as' = (argsL).toArray) (hW : (rest.map fun v => v.category).sum = W) (hd : decode c.code pc = .ok (.invokestatic index, 3)) (hf : rm.frames + 1 ≤ R.frames) (hlo : W + (maxL + 11) + rm.locals ≤ R.locals) (hc : cells + rm.cells ≤ R.cells) (hs : slots + rm.slots ≤ R.slots) (hc' : cells + rm.cells = cells') (hs' : slots + rm.slots = slots') (hp : pc + 3 = pc')
    (kk : ∀ v s2 T' h' Lc, Stand p l e R s2 m args below meth c T' (locs ++ Lc) cells' slots' → T'.heap = h' → HB Z EL s s2 h0 h' → Z.Warmed39 s2.vm → s2.vm.findClass own = some m.cls → (∀ x, x < h.size → Safe Z EL s'.vm h x → Safe Z EL s2.vm h' x) → Q v h' Lc → Goes p.tables e below P (T'.setTop (mkF m pc' L (v.toList ++ rest)))) : Goes p.tables e below P (T.setTop (mkF m pc L S)) := by
  subst hp hc' hs' hst has
  obtain ⟨vm, k, rfl, hSi, hk, A⟩ := B
  obtain ⟨v1, _, ⟨T1, L1, k1, n1⟩, -, X1, hS1, hg1, ⟨Lc, hQ, l1, y1, z1, C1⟩, st⟩ := callSS X hx hown (mvT hZ w1) (mvT hZ w2) (mvT hZ hwi) (mvT hZ hwc) hy (backOfH (W := W) hM hZ hwc hwi hf hlo hEL A.1 hlt hSf) (g := mkF m pc L (argsL.reverse ++ rest)) rfl hsize (argsL := argsL) (rest := rest) (lenOf hpd hlen) rfl (by rw [← hW]; show 2 * 0 + _ ≤ _; omega) hd (fun _ _ => ⟨rfl, eT, hc, hs⟩)
  dsimp only [Pt.U, Pt.locs, Pt.cells, Pt.slots] at X1 l1 y1 z1 C1 st hQ hS1 hg1
  subst l1 y1 z1
  subst eT
  exact (kk v1 (s.setVm T1.vm) T1 _ Lc X1 rfl ⟨_, _, rfl, hSi.trans hS1 (Nat.le_trans hk hg1), Nat.le_refl _, A.trans C1⟩ (State.Warmed39.trans (t := s.setVm vm) hZ hS1.1) (by rw [show (s.setVm T1.vm).vm = T1.vm from rfl, hS1.1.alike.findClass]; exact hown) (fun x hx hs => C1.safe hx hs) hQ).to st
theorem o_specialF (X : Stand p l e R s' m args below meth c T locs cells slots) (hx : p.tables.exec = Jvm.exec) (hZ : Z.Warmed39 s'.vm) {own : String} {index : Nat} {y : MethodName} {bytes : ByteArray} {maxL : Nat} {ret : Option FieldType} (hr : ret = none) (hy1 : y.name = "<init>") (hown : s'.vm.findClass own = some m.cls) (w1 : (Cond.methodLink own index y).before a0 Z = true) (w2 : (Cond.instanceMethod y).before a0 Z = true) (hy : y.cls ≠ "java/lang/invoke/MethodHandle" ∧ y.cls ≠ "java/lang/invoke/VarHandle") {a : Addr} {rm : Room} {as' : Array Value} {Q : Option Value → Heap → List Loc → Prop} (hM : MetH l Z EL y bytes maxL ret rm [] as' h sl Q) (hwc : (Cond.code y bytes maxL ret).before a0 Z = true) (hwi : (Cond.initialized y.cls).before a0 Z = true) (eT : T.heap = h) (B : HB Z EL s s' h0 h) (hEL : EW Z a0 EL) (hlt : ∀ x ∈ sl, x < h.size) (hSf : ∀ x ∈ sl, Safe Z EL s'.vm h x) (hsize : L.size = c.maxLocals) {argsL rest : List Value} {W : Nat} {ps : List FieldType} {rr : Option FieldType} (hpd : parseMethodDescriptor y.desc = some ⟨ps, rr⟩) (hlen : argsL.length = ps.length) (hst : S = argsL.reverse ++ .ref a :: rest) (has : as' = (.ref a :: argsL).toArray) (hW : (rest.map fun v => v.category).sum = W) (hd : decode c.code pc = .ok (.invokespecial index, 3)) (hf : rm.frames + 1 ≤ R.frames) (hlo : W + (maxL + 11) + rm.locals ≤ R.locals) (hc : cells + rm.cells ≤ R.cells) (hs : slots + rm.slots ≤ R.slots) (hc' : cells + rm.cells = cells') (hs' : slots + rm.slots = slots') (hp : pc + 3 = pc')
    (kk : ∀ v s2 T' h' Lc, Stand p l e R s2 m args below meth c T' (locs ++ Lc) cells' slots' → T'.heap = h' → HB Z EL s s2 h0 h' → Z.Warmed39 s2.vm → s2.vm.findClass own = some m.cls → (∀ x, x < h.size → Safe Z EL s'.vm h x → Safe Z EL s2.vm h' x) → Q v h' Lc → Goes p.tables e below P (T'.setTop (mkF m pc' L (v.toList ++ rest)))) : Goes p.tables e below P (T.setTop (mkF m pc L S)) := by
  subst hp hc' hs' hst has hr
  obtain ⟨vm, k, rfl, hSi, hk, A⟩ := B
  obtain ⟨v1, _, ⟨T1, L1, k1, n1⟩, -, X1, hS1, hg1, ⟨Lc, hQ, l1, y1, z1, C1⟩, st⟩ := X.specialBackS hx hy1 hown (mvT hZ w1) (mvT hZ w2) (mvT hZ hwc) hy (backOfH (W := W) hM hZ hwc hwi hf hlo hEL A.1 hlt hSf) (g := mkF m pc L (argsL.reverse ++ .ref a :: rest)) rfl hsize (Steps.refl _) (a := a) (argsL := argsL) (rest := rest) (lenOf hpd hlen) rfl (by rw [← hW]; show 2 * 0 + _ ≤ _; omega) hd (fun _ _ => ⟨rfl, eT, hc, hs⟩)
  dsimp only [Pt.U, Pt.locs, Pt.cells, Pt.slots] at X1 l1 y1 z1 C1 st hQ hS1 hg1
  subst l1 y1 z1
  subst eT
  exact (kk v1 (s.setVm T1.vm) T1 _ Lc X1 rfl ⟨_, _, rfl, hSi.trans hS1 (Nat.le_trans hk hg1), Nat.le_refl _, A.trans C1⟩ (State.Warmed39.trans (t := s.setVm vm) hZ hS1.1) (by rw [show (s.setVm T1.vm).vm = T1.vm from rfl, hS1.1.alike.findClass]; exact hown) (fun x hx hs => C1.safe hx hs) hQ).to st
end HeldF
section Cp
variable {p : Program} {l : Launch} {e : Env} {R : Room} {s : State} {m : MethodId} {args : Array Value} {below : List Frame} {meth : Method} {c : Code} {T : State} {locs : List Loc} {cells slots cells' slots' : Nat} {Z : State} {a0 : Array Value} {h : Heap} {P : Outcome → State → Prop} {pc pc' : Nat} {L L' : Array Slot} {S : List Value}
theorem o_acopy (X : Stand p l e R s m args below meth c T locs cells slots) (hx : p.tables.exec = Jvm.exec) (hZ : Z.Warmed39 s.vm) {own : String} {index : Nat} (hown : s.vm.findClass own = some m.cls) (w1 : (Cond.methodLink own index Jvm.Stand.acN).before a0 Z = true) (w2 : (Cond.native Jvm.Stand.acN).before a0 Z = true) (w3 : (Cond.static Jvm.Stand.acN).before a0 Z = true) (w4 : (Cond.initialized "java/lang/System").before a0 Z = true) (eT : T.heap = h) {a b : Addr} {k k' : ClassId} {ty : FieldType} {z z' sp dp nn : Int32} {vs vd us vd' : List Value} {dv dd : Value} {n0 : Nat}
    (A : Arv Z h a k ty z vs dv) (B : Arv Z h b k' ty z' vd dd) (hty : refKind ty = false) (h1 : ¬ sp < 0 ∧ ¬ dp < 0 ∧ ¬ nn < 0) (h4 : sp.toNatClampNeg + nn.toNatClampNeg ≤ z.toNatClampNeg) (h5 : dp.toNatClampNeg + nn.toNatClampNeg ≤ z'.toNatClampNeg) (hus : us = (List.range nn.toNatClampNeg).map fun i => vs.getD (sp.toNatClampNeg + i) dv) (hl : dp.toNatClampNeg + nn.toNatClampNeg ≤ vd.length) (hvd : vd.take dp.toNatClampNeg ++ us ++ vd.drop (dp.toNatClampNeg + nn.toNatClampNeg) = vd') (N : Fr n0 locs) (ge : n0 ≤ b) (hsize : L.size = c.maxLocals) (hd : decode c.code pc = .ok (.invokestatic index, 3)) (hf : 1 ≤ R.frames) {W : Nat} (hW : (S.map fun v => v.category).sum = W) (hlo : W + (nativeFrameWords "java/lang/System" "arraycopy" 5 + 11) ≤ R.locals) (hp : pc + 3 = pc')
    (kk : ∀ T' h' Lc, Stand p l e R s m args below meth c T' Lc cells slots → T'.heap = h' → Fr n0 Lc → Keep h h' [b] → Arv Z h' b k' ty z' vd' dd → Goes p.tables e below P (T'.setTop (mkF m pc' L S))) : Goes p.tables e below P (T.setTop (mkF m pc L (.int nn :: .int dp :: .ref b :: .int sp :: .ref a :: S))) := by
  subst hp hvd
  obtain ⟨T', h', L', X', e', N', K', A', st⟩ := cpA X hx hZ hown w1 w2 w3 w4 eT A B (Or.inl ⟨rfl, hty⟩) h1.1 h1.2.1 h1.2.2 h4 h5 hus hl N ge (g := mkF m pc L (.int nn :: .int dp :: .ref b :: .int sp :: .ref a :: S)) rfl hsize rfl hd hf (W := W) (by rw [← hW]; show 2 * 0 + _ ≤ _; omega) hlo
  exact (kk T' h' L' X' e' N' K' A').on st
theorem own_same {y : MethodName} (w3 : (Cond.instanceMethod y).before a0 Z = true) (hnf : NotFace Z y) (hy : y.cls ≠ "java/lang/invoke/MethodHandle" ∧ y.cls ≠ "java/lang/invoke/VarHandle") : (Cond.sameMethod y.cls y.cls y.name y.desc).before a0 Z = true := by
  obtain ⟨mk, methM, hnamed, hmethM, hstM, habM⟩ := Cond.instanceMethod_spec w3
  obtain ⟨kr, g1, g2⟩ := hnf mk hnamed
  have e1 := findClass_of_methodNamed hnamed
  have e2 := State.methodFound?_of_named hnamed hy
  have e3 : Z.methodNamed? ⟨y.cls, y.name, y.desc⟩ = some mk := hnamed
  simp [Cond.before, Cond.holds, Cond.value, e1, e2, e3, g1, g2]
theorem o_super (X : Stand p l e R s m args below meth c T locs cells slots) (hx : p.tables.exec = Jvm.exec) (hZ : Z.Warmed39 s.vm) {own K : String} {index : Nat} {y : MethodName} {bytes : ByteArray} {maxL : Nat} {ret : Option FieldType} (hown : s.vm.findClass own = some m.cls) (w1 : (Cond.methodLink own index y).before a0 Z = true) (w2 : (Cond.sameMethod y.cls y.cls y.name y.desc).before a0 Z = true) (w3 : (Cond.instanceMethod y).before a0 Z = true) (w4 : (Cond.superclass own y.cls).before a0 Z = true) (hn : y.name ≠ "<init>") {a : Addr} (F : Ins Z h a K true) {rm : Room} {as' : Array Value} {Q : Option Value → Heap → List Loc → Prop} (hM : Met l Z y bytes maxL ret rm [] as' h Q) (hwc : (Cond.code y bytes maxL ret).before a0 Z = true) (hwi : (Cond.initialized y.cls).before a0 Z = true) (eT : T.heap = h) (hsize : L.size = c.maxLocals) {argsL rest : List Value} {W : Nat} {ps : List FieldType} {rr : Option FieldType} (hpd : parseMethodDescriptor y.desc = some ⟨ps, rr⟩) (hlen : argsL.length = ps.length) (hst : S = argsL.reverse ++ .ref a :: rest) (has : as' = (.ref a :: argsL).toArray) (hW : (rest.map fun v => v.category).sum = W) (hd : decode c.code pc = .ok (.invokespecial index, 3)) (hf : rm.frames + 1 ≤ R.frames) (hlo : W + (maxL + 11) + rm.locals ≤ R.locals) (hc : cells + rm.cells ≤ R.cells) (hs : slots + rm.slots ≤ R.slots) (hc' : cells + rm.cells = cells') (hs' : slots + rm.slots = slots') (hp : pc + 3 = pc')
    (kk : ∀ v T' h' Lc, Stand p l e R s m args below meth c T' (locs ++ Lc) cells' slots' → T'.heap = h' → Q v h' Lc → Goes p.tables e below P (T'.setTop (mkF m pc' L (v.toList ++ rest)))) : Goes p.tables e below P (T.setTop (mkF m pc L S)) := by
  subst hp hc' hs' hst has
  obtain ⟨_, _, ⟨T1, L1, k1, n1⟩, -, X1, ⟨Lc, hQ, l1, y1, z1⟩, st⟩ := superBack X hx hZ hown w1 w2 w3 w4 hn (backOf (W := W) hM hZ hwc hwi hf hlo) eT F (g := mkF m pc L (argsL.reverse ++ .ref a :: rest)) rfl hsize hwc (argsL := argsL) (rest := rest) (lenOf hpd hlen) rfl (by rw [← hW]; show 2 * 0 + _ ≤ _; omega) hd (fun _ _ => ⟨rfl, eT, hc, hs⟩)
  dsimp only [Pt.U, Pt.locs, Pt.cells, Pt.slots] at X1 l1 y1 z1 st hQ
  subst l1 y1 z1
  exact (kk _ _ _ _ X1 rfl hQ).to st
end Cp
theorem own_sa {Z : State} {a0 : Array Value} (hw : ∀ d ∈ tables_1, d.before a0 Z = true) : ∀ d ∈ Bundle.stringAtoms, d.before a0 Z = true := fun d hd => hw d ((by decide +kernel : ∀ d ∈ Bundle.stringAtoms, d ∈ tables_1) d hd)
theorem own_ws {Z : State} {a0 : Array Value} (hw : ∀ d ∈ tables_1, d.before a0 Z = true) : ∀ d ∈ StrChars.Road.words, d.before a0 Z = true := fun d hd => hw d ((by decide +kernel : ∀ d ∈ StrChars.Road.words, d ∈ tables_1) d hd)
theorem own_c255 (x : Int32) : ¬ ((255 : Int32) < (((x &&& (255 : Int32)).toUInt32.toUInt16.toUInt32.toInt32))) := by
  have t : ∀ k : Fin 256, ¬ (255 : Int32) < ((Int32.ofNat k.val).toUInt32.toUInt16.toUInt32.toInt32) := by decide +kernel
  have h : (x &&& 255).toBitVec.toNat < 256 := by
    simp only [Int32.toBitVec_and, BitVec.toNat_and]
    exact Nat.lt_succ_of_le Nat.and_le_right
  have e : (x &&& 255) = Int32.ofNat (x &&& 255).toBitVec.toNat := by
    apply Int32.toBitVec_inj.mp
    show _ = BitVec.ofNat 32 _
    rw [BitVec.ofNat_toNat]; simp
  rw [e]
  exact t ⟨_, h⟩
theorem own_fld {Z : State} {args : Array Value} {t : Term} {a : Addr} {C n d : String} {v : Value} (ev : t.eval args Z none [] Z = some (.ref a)) (h : (Term.field t C n d).eval args Z none [] Z = some v) : Fld Z Z.heap a C n d v := Fld.start (by simpa [Term.eval, ev] using h)
theorem own_arv0 {Z : State} {args : Array Value} {t : Term} {a : Addr} {ty : FieldType} {dv : Value} (hf : Fit Z) (ev : t.eval args Z none [] Z = some (.ref a)) (hx : (Cond.arrayOf t ty).value args Z none Z [] = some true) (h : (Term.length t).eval args Z none [] Z = some (.int 0)) : ∃ k, Arv Z Z.heap a k ty 0 [] dv := by
  obtain ⟨cl, A⟩ := Arr.start ev hx
  simp only [Term.eval, ev, Option.bind_eq_bind, Option.bind_some] at h
  obtain ⟨cell, hcell, h⟩ := Option.bind_eq_some_iff.mp h
  have hc := (State.arrayAt?_spec hcell).1
  cases Option.some.inj (A.1.symm.trans hc)
  by_cases hn : cl.slots.size < 2147483648
  · rw [if_pos hn] at h
    exact ⟨cl.cls, Arv.start hf A hn (by injection h with h; injection h) (by decide) rfl trivial⟩
  · rw [if_neg hn] at h; cases h
theorem own_eqr {Z : State} {args : Array Value} {X F : Term} {b : Addr} (hF : F.eval args Z none [] Z = some (.ref b)) (h : (Cond.eq X F).value args Z none Z [] = some true) : X.eval args Z none [] Z = some (.ref b) := by
  simp only [Cond.value, hF] at h
  cases hX : X.eval args Z none [] Z with
  | none => rw [hX] at h; simp at h
  | some v => rw [hX] at h; cases v <;> simp_all
def C8 (c : Int32) : Prop := ¬ c < 0 ∧ ¬ (255 : Int32) < c
theorem own_mask (y : Int32) : C8 ((y &&& (255 : Int32)).toUInt32.toUInt16.toUInt32.toInt32) := by
  refine ⟨?_, own_c255 _⟩
  have t : ∀ k : Fin 256, ¬ ((Int32.ofNat k.val).toUInt32.toUInt16.toUInt32.toInt32) < (0 : Int32) := by decide +kernel
  have h : (y &&& 255).toBitVec.toNat < 256 := by
    simp only [Int32.toBitVec_and, BitVec.toNat_and]
    exact Nat.lt_succ_of_le Nat.and_le_right
  have e : (y &&& 255) = Int32.ofNat (y &&& 255).toBitVec.toNat := by
    apply Int32.toBitVec_inj.mp
    show _ = BitVec.ofNat 32 _
    rw [BitVec.ofNat_toNat]; simp
  rw [e]
  exact t ⟨_, h⟩
theorem own_c8n {c : Int32} (h : C8 c) : C8 (nar .char c) := by
  have h1 := h.1
  have h2 := h.2
  rw [Int32.lt_iff_toInt_lt] at h1 h2
  have e0 : (0 : Int32).toInt = 0 := rfl
  have e1 : (255 : Int32).toInt = 255 := rfl
  rw [e0] at h1; rw [e1] at h2
  have hk : ∃ k : Fin 256, c = Int32.ofNat k.val := by
    refine ⟨⟨c.toInt.toNat, by omega⟩, ?_⟩
    apply Int32.toInt_inj.mp
    rw [Int32.toInt_ofNat_small (by omega)]
    simp only []
    omega
  obtain ⟨k, rfl⟩ := hk
  have t : ∀ k : Fin 256, ¬ nar .char (Int32.ofNat k.val) < 0 ∧ ¬ (255 : Int32) < nar .char (Int32.ofNat k.val) := by decide +kernel
  exact t k
theorem c80 : ∀ c ∈ ([] : List Int32), ¬ c < 0 ∧ ¬ (255 : Int32) < c := fun _ h => by cases h
theorem c8S {a : Int32} {L : List Int32} (h : C8 a) (t : ∀ c ∈ L, ¬ c < 0 ∧ ¬ (255 : Int32) < c) : ∀ c ∈ a :: L, ¬ c < 0 ∧ ¬ (255 : Int32) < c := fun x hx => by rcases List.mem_cons.mp hx with rfl | q; exact h; exact t x q
theorem own_cnt3 (x : Int32) : ((x &&& (3 : Int32)) % (3 : Int32)) = 0 ∨ ((x &&& (3 : Int32)) % (3 : Int32)) = 1 ∨ ((x &&& (3 : Int32)) % (3 : Int32)) = 2 := by
  have h := Jvm.RoadKit.c_and x 3 (by decide)
  have e : (3 : Int32).toInt = 3 := rfl
  rw [e] at h
  have h2 : ((x &&& 3) % 3 : Int32).toInt = (x &&& 3).toInt.tmod 3 := by rw [Int32.toInt_mod]; rfl
  have h3 : 0 ≤ (x &&& 3).toInt.tmod 3 := Int.tmod_nonneg _ h.1
  have h4 : (x &&& 3).toInt.tmod 3 < 3 := Int.tmod_lt_of_pos _ (by decide)
  have hh : ((x &&& 3) % 3 : Int32).toInt = 0 ∨ ((x &&& 3) % 3 : Int32).toInt = 1 ∨ ((x &&& 3) % 3 : Int32).toInt = 2 := by omega
  rcases hh with h | h | h
  · exact Or.inl (Int32.toInt_inj.mp h)
  · exact Or.inr (Or.inl (Int32.toInt_inj.mp h))
  · exact Or.inr (Or.inr (Int32.toInt_inj.mp h))
theorem wd0 {Z : State} {a0 : Array Value} (hw : ∀ d ∈ tables_1, d.before a0 Z = true) : (Jvm.Cond.classLink "com/example/hybrev/hybrev/EventPageIsMissedPinLaw" (13 : Nat) "java/util/ArrayList").before a0 Z = true := hw _ (List.mem_of_getElem? (i := 0) rfl)
theorem wd1 {Z : State} {a0 : Array Value} (hw : ∀ d ∈ tables_1, d.before a0 Z = true) : (Jvm.Cond.instantiable "java/util/ArrayList" (3 : Nat)).before a0 Z = true := hw _ (List.mem_of_getElem? (i := 1) rfl)
theorem wd2 {Z : State} {a0 : Array Value} (hw : ∀ d ∈ tables_1, d.before a0 Z = true) : (Jvm.Cond.initialized "java/util/ArrayList").before a0 Z = true := hw _ (List.mem_of_getElem? (i := 2) rfl)
theorem wd3 {Z : State} {a0 : Array Value} (hw : ∀ d ∈ tables_1, d.before a0 Z = true) : (Jvm.Cond.methodLink "com/example/hybrev/hybrev/EventPageIsMissedPinLaw" (15 : Nat) ({ cls := "java/util/ArrayList", name := "<init>", desc := "()V" } : Jvm.MethodName)).before a0 Z = true := hw _ (List.mem_of_getElem? (i := 3) rfl)
theorem wd4 {Z : State} {a0 : Array Value} (hw : ∀ d ∈ tables_1, d.before a0 Z = true) : (Jvm.Cond.instanceMethod ({ cls := "java/util/ArrayList", name := "<init>", desc := "()V" } : Jvm.MethodName)).before a0 Z = true := hw _ (List.mem_of_getElem? (i := 4) rfl)
theorem wd5 {Z : State} {a0 : Array Value} (hw : ∀ d ∈ tables_1, d.before a0 Z = true) : (Jvm.Cond.code ({ cls := "java/util/ArrayList", name := "<init>", desc := "()V" } : Jvm.MethodName) jdk_38_method_2_code (1 : Nat) (Option.none : Option Jvm.ClassFile.FieldType)).before a0 Z = true := hw _ (List.mem_of_getElem? (i := 5) rfl)
theorem wd6 {Z : State} {a0 : Array Value} (hw : ∀ d ∈ tables_1, d.before a0 Z = true) : (Jvm.Cond.methodLink "java/util/ArrayList" (1 : Nat) ({ cls := "java/util/AbstractList", name := "<init>", desc := "()V" } : Jvm.MethodName)).before a0 Z = true := hw _ (List.mem_of_getElem? (i := 6) rfl)
theorem wd7 {Z : State} {a0 : Array Value} (hw : ∀ d ∈ tables_1, d.before a0 Z = true) : (Jvm.Cond.instanceMethod ({ cls := "java/util/AbstractList", name := "<init>", desc := "()V" } : Jvm.MethodName)).before a0 Z = true := hw _ (List.mem_of_getElem? (i := 7) rfl)
theorem wd10 {Z : State} {a0 : Array Value} (hw : ∀ d ∈ tables_1, d.before a0 Z = true) : (Jvm.Cond.initialized "java/util/AbstractList").before a0 Z = true := hw _ (List.mem_of_getElem? (i := 10) rfl)
theorem wd11 {Z : State} {a0 : Array Value} (hw : ∀ d ∈ tables_1, d.before a0 Z = true) : (Jvm.Cond.code ({ cls := "java/util/AbstractList", name := "<init>", desc := "()V" } : Jvm.MethodName) jdk_39_method_1_code (1 : Nat) (Option.none : Option Jvm.ClassFile.FieldType)).before a0 Z = true := hw _ (List.mem_of_getElem? (i := 11) rfl)
theorem wd12 {Z : State} {a0 : Array Value} (hw : ∀ d ∈ tables_1, d.before a0 Z = true) : (Jvm.Cond.methodLink "java/util/AbstractList" (1 : Nat) ({ cls := "java/util/AbstractCollection", name := "<init>", desc := "()V" } : Jvm.MethodName)).before a0 Z = true := hw _ (List.mem_of_getElem? (i := 12) rfl)
theorem wd13 {Z : State} {a0 : Array Value} (hw : ∀ d ∈ tables_1, d.before a0 Z = true) : (Jvm.Cond.instanceMethod ({ cls := "java/util/AbstractCollection", name := "<init>", desc := "()V" } : Jvm.MethodName)).before a0 Z = true := hw _ (List.mem_of_getElem? (i := 13) rfl)
theorem wd16 {Z : State} {a0 : Array Value} (hw : ∀ d ∈ tables_1, d.before a0 Z = true) : (Jvm.Cond.initialized "java/util/AbstractCollection").before a0 Z = true := hw _ (List.mem_of_getElem? (i := 16) rfl)
theorem wd17 {Z : State} {a0 : Array Value} (hw : ∀ d ∈ tables_1, d.before a0 Z = true) : (Jvm.Cond.code ({ cls := "java/util/AbstractCollection", name := "<init>", desc := "()V" } : Jvm.MethodName) jdk_22_method_1_code (1 : Nat) (Option.none : Option Jvm.ClassFile.FieldType)).before a0 Z = true := hw _ (List.mem_of_getElem? (i := 17) rfl)
theorem wd18 {Z : State} {a0 : Array Value} (hw : ∀ d ∈ tables_1, d.before a0 Z = true) : (Jvm.Cond.methodLink "java/util/AbstractCollection" (1 : Nat) ({ cls := "java/lang/Object", name := "<init>", desc := "()V" } : Jvm.MethodName)).before a0 Z = true := hw _ (List.mem_of_getElem? (i := 18) rfl)
theorem wd19 {Z : State} {a0 : Array Value} (hw : ∀ d ∈ tables_1, d.before a0 Z = true) : (Jvm.Cond.instanceMethod ({ cls := "java/lang/Object", name := "<init>", desc := "()V" } : Jvm.MethodName)).before a0 Z = true := hw _ (List.mem_of_getElem? (i := 19) rfl)
theorem wd20 {Z : State} {a0 : Array Value} (hw : ∀ d ∈ tables_1, d.before a0 Z = true) : (Jvm.Cond.code ({ cls := "java/lang/Object", name := "<init>", desc := "()V" } : Jvm.MethodName) object_method_1_code (1 : Nat) (Option.none : Option Jvm.ClassFile.FieldType)).before a0 Z = true := hw _ (List.mem_of_getElem? (i := 20) rfl)
theorem wd21 {Z : State} {a0 : Array Value} (hw : ∀ d ∈ tables_1, d.before a0 Z = true) : (Jvm.Cond.fieldLink "java/util/AbstractList" (7 : Nat) "java/util/AbstractList" "modCount" "I").before a0 Z = true := hw _ (List.mem_of_getElem? (i := 21) rfl)
theorem wd22 {Z : State} {a0 : Array Value} (hw : ∀ d ∈ tables_1, d.before a0 Z = true) : (Jvm.Cond.lays "java/util/ArrayList" "java/util/AbstractList" "modCount" "I").before a0 Z = true := hw _ (List.mem_of_getElem? (i := 22) rfl)
theorem wd23 {Z : State} {a0 : Array Value} (hw : ∀ d ∈ tables_1, d.before a0 Z = true) : (Jvm.Cond.fieldLink "java/util/ArrayList" (39 : Nat) "java/util/ArrayList" "DEFAULTCAPACITY_EMPTY_ELEMENTDATA" "[Ljava/lang/Object;").before a0 Z = true := hw _ (List.mem_of_getElem? (i := 23) rfl)
theorem wd24 {Z : State} {a0 : Array Value} (hw : ∀ d ∈ tables_1, d.before a0 Z = true) : (Jvm.Cond.fieldLink "java/util/ArrayList" (9 : Nat) "java/util/ArrayList" "elementData" "[Ljava/lang/Object;").before a0 Z = true := hw _ (List.mem_of_getElem? (i := 24) rfl)
theorem wd25 {Z : State} {a0 : Array Value} (hw : ∀ d ∈ tables_1, d.before a0 Z = true) : (Jvm.Cond.lays "java/util/ArrayList" "java/util/ArrayList" "elementData" "[Ljava/lang/Object;").before a0 Z = true := hw _ (List.mem_of_getElem? (i := 25) rfl)
theorem wd26 {Z : State} {a0 : Array Value} (hw : ∀ d ∈ tables_1, d.before a0 Z = true) : (Jvm.Cond.fieldLink "com/example/hybrev/hybrev/EventPageIsMissedPinLaw" (16 : Nat) "com/example/hybrev/hybrev/RevocationEvent$Kind" "TOKEN" "Lcom/example/hybrev/hybrev/RevocationEvent$Kind;").before a0 Z = true := hw _ (List.mem_of_getElem? (i := 26) rfl)
theorem wd27 {Z : State} {a0 : Array Value} (hw : ∀ d ∈ tables_1, d.before a0 Z = true) : (Jvm.Cond.initialized "com/example/hybrev/hybrev/RevocationEvent$Kind").before a0 Z = true := hw _ (List.mem_of_getElem? (i := 27) rfl)
theorem wd28 {Z : State} {a0 : Array Value} (hw : ∀ d ∈ tables_1, d.before a0 Z = true) : (Jvm.Cond.laysStatic "com/example/hybrev/hybrev/RevocationEvent$Kind" "TOKEN" "Lcom/example/hybrev/hybrev/RevocationEvent$Kind;").before a0 Z = true := hw _ (List.mem_of_getElem? (i := 28) rfl)
theorem wd29 {Z : State} {a0 : Array Value} (hw : ∀ d ∈ tables_1, d.before a0 Z = true) : (Jvm.Cond.fieldLink "com/example/hybrev/hybrev/EventPageIsMissedPinLaw" (22 : Nat) "com/example/hybrev/hybrev/RevocationEvent$Kind" "USER" "Lcom/example/hybrev/hybrev/RevocationEvent$Kind;").before a0 Z = true := hw _ (List.mem_of_getElem? (i := 29) rfl)
theorem wd30 {Z : State} {a0 : Array Value} (hw : ∀ d ∈ tables_1, d.before a0 Z = true) : (Jvm.Cond.laysStatic "com/example/hybrev/hybrev/RevocationEvent$Kind" "USER" "Lcom/example/hybrev/hybrev/RevocationEvent$Kind;").before a0 Z = true := hw _ (List.mem_of_getElem? (i := 30) rfl)
theorem wd31 {Z : State} {a0 : Array Value} (hw : ∀ d ∈ tables_1, d.before a0 Z = true) : (Jvm.Cond.methodLink "com/example/hybrev/hybrev/EventPageIsMissedPinLaw" (25 : Nat) ({ cls := "com/example/hybrev/hybrev/EventPageIsMissedPinLaw", name := "str", desc := "(II)Ljava/lang/String;" } : Jvm.MethodName)).before a0 Z = true := hw _ (List.mem_of_getElem? (i := 31) rfl)
theorem wd32 {Z : State} {a0 : Array Value} (hw : ∀ d ∈ tables_1, d.before a0 Z = true) : (Jvm.Cond.static ({ cls := "com/example/hybrev/hybrev/EventPageIsMissedPinLaw", name := "str", desc := "(II)Ljava/lang/String;" } : Jvm.MethodName)).before a0 Z = true := hw _ (List.mem_of_getElem? (i := 32) rfl)
theorem wd33 {Z : State} {a0 : Array Value} (hw : ∀ d ∈ tables_1, d.before a0 Z = true) : (Jvm.Cond.initialized "com/example/hybrev/hybrev/EventPageIsMissedPinLaw").before a0 Z = true := hw _ (List.mem_of_getElem? (i := 33) rfl)
theorem wd34 {Z : State} {a0 : Array Value} (hw : ∀ d ∈ tables_1, d.before a0 Z = true) : (Jvm.Cond.code ({ cls := "com/example/hybrev/hybrev/EventPageIsMissedPinLaw", name := "str", desc := "(II)Ljava/lang/String;" } : Jvm.MethodName) method_3_code (7 : Nat) (Option.some (Jvm.ClassFile.FieldType.object "java/lang/String"))).before a0 Z = true := hw _ (List.mem_of_getElem? (i := 34) rfl)
theorem wd35 {Z : State} {a0 : Array Value} (hw : ∀ d ∈ tables_1, d.before a0 Z = true) : (Jvm.Cond.classLink "com/example/hybrev/hybrev/EventPageIsMissedPinLaw" (60 : Nat) "java/lang/String").before a0 Z = true := hw _ (List.mem_of_getElem? (i := 35) rfl)
theorem wd36 {Z : State} {a0 : Array Value} (hw : ∀ d ∈ tables_1, d.before a0 Z = true) : (Jvm.Cond.instantiable "java/lang/String" (4 : Nat)).before a0 Z = true := hw _ (List.mem_of_getElem? (i := 36) rfl)
theorem wd37 {Z : State} {a0 : Array Value} (hw : ∀ d ∈ tables_1, d.before a0 Z = true) : (Jvm.Cond.initialized "java/lang/String").before a0 Z = true := hw _ (List.mem_of_getElem? (i := 37) rfl)
theorem wd38 {Z : State} {a0 : Array Value} (hw : ∀ d ∈ tables_1, d.before a0 Z = true) : (Jvm.Cond.arrayClass Jvm.ClassFile.FieldType.char).before a0 Z = true := hw _ (List.mem_of_getElem? (i := 38) rfl)
theorem wd39 {Z : State} {a0 : Array Value} (hw : ∀ d ∈ tables_1, d.before a0 Z = true) : (Jvm.Cond.methodLink "com/example/hybrev/hybrev/EventPageIsMissedPinLaw" (62 : Nat) ({ cls := "java/lang/String", name := "<init>", desc := "([C)V" } : Jvm.MethodName)).before a0 Z = true := hw _ (List.mem_of_getElem? (i := 39) rfl)
theorem wd40 {Z : State} {a0 : Array Value} (hw : ∀ d ∈ tables_1, d.before a0 Z = true) : (Jvm.Cond.instanceMethod ({ cls := "java/lang/String", name := "<init>", desc := "([C)V" } : Jvm.MethodName)).before a0 Z = true := hw _ (List.mem_of_getElem? (i := 40) rfl)
theorem wd41 {Z : State} {a0 : Array Value} (hw : ∀ d ∈ tables_1, d.before a0 Z = true) : (Jvm.Cond.code ({ cls := "java/lang/String", name := "<init>", desc := "([C)V" } : Jvm.MethodName) jdk_42_method_3_code (2 : Nat) (Option.none : Option Jvm.ClassFile.FieldType)).before a0 Z = true := hw _ (List.mem_of_getElem? (i := 41) rfl)
theorem wd42 {Z : State} {a0 : Array Value} (hw : ∀ d ∈ tables_1, d.before a0 Z = true) : (Jvm.Cond.methodLink "java/lang/String" (27 : Nat) ({ cls := "java/lang/String", name := "<init>", desc := "([CIILjava/lang/Void;)V" } : Jvm.MethodName)).before a0 Z = true := hw _ (List.mem_of_getElem? (i := 42) rfl)
theorem wd43 {Z : State} {a0 : Array Value} (hw : ∀ d ∈ tables_1, d.before a0 Z = true) : (Jvm.Cond.instanceMethod ({ cls := "java/lang/String", name := "<init>", desc := "([CIILjava/lang/Void;)V" } : Jvm.MethodName)).before a0 Z = true := hw _ (List.mem_of_getElem? (i := 43) rfl)
theorem wd45 {Z : State} {a0 : Array Value} (hw : ∀ d ∈ tables_1, d.before a0 Z = true) : (Jvm.Cond.code ({ cls := "java/lang/String", name := "<init>", desc := "([CIILjava/lang/Void;)V" } : Jvm.MethodName) jdk_42_method_149_code (6 : Nat) (Option.none : Option Jvm.ClassFile.FieldType)).before a0 Z = true := hw _ (List.mem_of_getElem? (i := 45) rfl)
theorem wd46 {Z : State} {a0 : Array Value} (hw : ∀ d ∈ tables_1, d.before a0 Z = true) : (Jvm.Cond.methodLink "java/lang/String" (1 : Nat) ({ cls := "java/lang/Object", name := "<init>", desc := "()V" } : Jvm.MethodName)).before a0 Z = true := hw _ (List.mem_of_getElem? (i := 46) rfl)
theorem wd47 {Z : State} {a0 : Array Value} (hw : ∀ d ∈ tables_1, d.before a0 Z = true) : (Jvm.Cond.stringLink "java/lang/String" (7 : Nat) "").before a0 Z = true := hw _ (List.mem_of_getElem? (i := 47) rfl)
theorem wd48 {Z : State} {a0 : Array Value} (hw : ∀ d ∈ tables_1, d.before a0 Z = true) : (Jvm.Cond.arrayClass Jvm.ClassFile.FieldType.byte).before a0 Z = true := hw _ (List.mem_of_getElem? (i := 48) rfl)
theorem wd49 {Z : State} {a0 : Array Value} (hw : ∀ d ∈ tables_1, d.before a0 Z = true) : (Jvm.Cond.laysFinal "java/lang/String" "java/lang/String" "value" "[B").before a0 Z = true := hw _ (List.mem_of_getElem? (i := 49) rfl)
theorem wd50 {Z : State} {a0 : Array Value} (hw : ∀ d ∈ tables_1, d.before a0 Z = true) : (Jvm.Cond.laysFinal "java/lang/String" "java/lang/String" "coder" "B").before a0 Z = true := hw _ (List.mem_of_getElem? (i := 50) rfl)
theorem wd53 {Z : State} {a0 : Array Value} (hw : ∀ d ∈ tables_1, d.before a0 Z = true) : (Jvm.Cond.fieldLink "java/lang/String" (9 : Nat) "java/lang/String" "value" "[B").before a0 Z = true := hw _ (List.mem_of_getElem? (i := 53) rfl)
theorem wd54 {Z : State} {a0 : Array Value} (hw : ∀ d ∈ tables_1, d.before a0 Z = true) : (Jvm.Cond.fieldLink "java/lang/String" (15 : Nat) "java/lang/String" "coder" "B").before a0 Z = true := hw _ (List.mem_of_getElem? (i := 54) rfl)
theorem wd55 {Z : State} {a0 : Array Value} (hw : ∀ d ∈ tables_1, d.before a0 Z = true) : (Jvm.Cond.classLink "com/example/hybrev/hybrev/EventPageIsMissedPinLaw" (8 : Nat) "com/example/hybrev/hybrev/EventPage").before a0 Z = true := hw _ (List.mem_of_getElem? (i := 55) rfl)
theorem wd56 {Z : State} {a0 : Array Value} (hw : ∀ d ∈ tables_1, d.before a0 Z = true) : (Jvm.Cond.instantiable "com/example/hybrev/hybrev/EventPage" (2 : Nat)).before a0 Z = true := hw _ (List.mem_of_getElem? (i := 56) rfl)
theorem wd57 {Z : State} {a0 : Array Value} (hw : ∀ d ∈ tables_1, d.before a0 Z = true) : (Jvm.Cond.initialized "com/example/hybrev/hybrev/EventPage").before a0 Z = true := hw _ (List.mem_of_getElem? (i := 57) rfl)
theorem wd58 {Z : State} {a0 : Array Value} (hw : ∀ d ∈ tables_1, d.before a0 Z = true) : (Jvm.Cond.methodLink "com/example/hybrev/hybrev/EventPageIsMissedPinLaw" (40 : Nat) ({ cls := "com/example/hybrev/hybrev/EventPage", name := "<init>", desc := "(Ljava/util/List;Ljava/lang/String;)V" } : Jvm.MethodName)).before a0 Z = true := hw _ (List.mem_of_getElem? (i := 58) rfl)
theorem wd59 {Z : State} {a0 : Array Value} (hw : ∀ d ∈ tables_1, d.before a0 Z = true) : (Jvm.Cond.instanceMethod ({ cls := "com/example/hybrev/hybrev/EventPage", name := "<init>", desc := "(Ljava/util/List;Ljava/lang/String;)V" } : Jvm.MethodName)).before a0 Z = true := hw _ (List.mem_of_getElem? (i := 59) rfl)
theorem wd60 {Z : State} {a0 : Array Value} (hw : ∀ d ∈ tables_1, d.before a0 Z = true) : (Jvm.Cond.code ({ cls := "com/example/hybrev/hybrev/EventPage", name := "<init>", desc := "(Ljava/util/List;Ljava/lang/String;)V" } : Jvm.MethodName) prog_5_method_2_code (3 : Nat) (Option.none : Option Jvm.ClassFile.FieldType)).before a0 Z = true := hw _ (List.mem_of_getElem? (i := 60) rfl)
theorem wd61 {Z : State} {a0 : Array Value} (hw : ∀ d ∈ tables_1, d.before a0 Z = true) : (Jvm.Cond.methodLink "com/example/hybrev/hybrev/EventPage" (1 : Nat) ({ cls := "java/lang/Object", name := "<init>", desc := "()V" } : Jvm.MethodName)).before a0 Z = true := hw _ (List.mem_of_getElem? (i := 61) rfl)
theorem wd62 {Z : State} {a0 : Array Value} (hw : ∀ d ∈ tables_1, d.before a0 Z = true) : (Jvm.Cond.methodLink "com/example/hybrev/hybrev/EventPage" (23 : Nat) ({ cls := "java/util/List", name := "copyOf", desc := "(Ljava/util/Collection;)Ljava/util/List;" } : Jvm.MethodName)).before a0 Z = true := hw _ (List.mem_of_getElem? (i := 62) rfl)
theorem wd63 {Z : State} {a0 : Array Value} (hw : ∀ d ∈ tables_1, d.before a0 Z = true) : (Jvm.Cond.static ({ cls := "java/util/List", name := "copyOf", desc := "(Ljava/util/Collection;)Ljava/util/List;" } : Jvm.MethodName)).before a0 Z = true := hw _ (List.mem_of_getElem? (i := 63) rfl)
theorem wd64 {Z : State} {a0 : Array Value} (hw : ∀ d ∈ tables_1, d.before a0 Z = true) : (Jvm.Cond.initialized "java/util/List").before a0 Z = true := hw _ (List.mem_of_getElem? (i := 64) rfl)
theorem wd65 {Z : State} {a0 : Array Value} (hw : ∀ d ∈ tables_1, d.before a0 Z = true) : (Jvm.Cond.code ({ cls := "java/util/List", name := "copyOf", desc := "(Ljava/util/Collection;)Ljava/util/List;" } : Jvm.MethodName) jdk_40_method_48_code (1 : Nat) (Option.some (Jvm.ClassFile.FieldType.object "java/util/List"))).before a0 Z = true := hw _ (List.mem_of_getElem? (i := 65) rfl)
theorem wd66 {Z : State} {a0 : Array Value} (hw : ∀ d ∈ tables_1, d.before a0 Z = true) : (Jvm.Cond.methodLink "java/util/List" (112 : Nat) ({ cls := "java/util/ImmutableCollections", name := "listCopy", desc := "(Ljava/util/Collection;)Ljava/util/List;" } : Jvm.MethodName)).before a0 Z = true := hw _ (List.mem_of_getElem? (i := 66) rfl)
theorem wd67 {Z : State} {a0 : Array Value} (hw : ∀ d ∈ tables_1, d.before a0 Z = true) : (Jvm.Cond.static ({ cls := "java/util/ImmutableCollections", name := "listCopy", desc := "(Ljava/util/Collection;)Ljava/util/List;" } : Jvm.MethodName)).before a0 Z = true := hw _ (List.mem_of_getElem? (i := 67) rfl)
theorem wd68 {Z : State} {a0 : Array Value} (hw : ∀ d ∈ tables_1, d.before a0 Z = true) : (Jvm.Cond.initialized "java/util/ImmutableCollections").before a0 Z = true := hw _ (List.mem_of_getElem? (i := 68) rfl)
theorem wd69 {Z : State} {a0 : Array Value} (hw : ∀ d ∈ tables_1, d.before a0 Z = true) : (Jvm.Cond.code ({ cls := "java/util/ImmutableCollections", name := "listCopy", desc := "(Ljava/util/Collection;)Ljava/util/List;" } : Jvm.MethodName) jdk_56_method_3_code (2 : Nat) (Option.some (Jvm.ClassFile.FieldType.object "java/util/List"))).before a0 Z = true := hw _ (List.mem_of_getElem? (i := 69) rfl)
theorem wd70 {Z : State} {a0 : Array Value} (hw : ∀ d ∈ tables_1, d.before a0 Z = true) : (Jvm.Cond.classLink "java/util/ImmutableCollections" (10 : Nat) "java/util/ImmutableCollections$List12").before a0 Z = true := hw _ (List.mem_of_getElem? (i := 70) rfl)
theorem wd71 {Z : State} {a0 : Array Value} (hw : ∀ d ∈ tables_1, d.before a0 Z = true) : (Jvm.Cond.superclass "java/util/ArrayList" "java/util/AbstractList").before a0 Z = true := hw _ (List.mem_of_getElem? (i := 71) rfl)
theorem wd72 {Z : State} {a0 : Array Value} (hw : ∀ d ∈ tables_1, d.before a0 Z = true) : (Jvm.Cond.superclass "java/util/AbstractList" "java/util/AbstractCollection").before a0 Z = true := hw _ (List.mem_of_getElem? (i := 72) rfl)
theorem wd73 {Z : State} {a0 : Array Value} (hw : ∀ d ∈ tables_1, d.before a0 Z = true) : (Jvm.Cond.superclass "java/util/AbstractCollection" "java/lang/Object").before a0 Z = true := hw _ (List.mem_of_getElem? (i := 73) rfl)
theorem wd74 {Z : State} {a0 : Array Value} (hw : ∀ d ∈ tables_1, d.before a0 Z = true) : (Jvm.Cond.noSuperclass "java/lang/Object").before a0 Z = true := hw _ (List.mem_of_getElem? (i := 74) rfl)
theorem wd75 {Z : State} {a0 : Array Value} (hw : ∀ d ∈ tables_1, d.before a0 Z = true) : (Jvm.Cond.classLink "java/util/ImmutableCollections" (12 : Nat) "java/util/ImmutableCollections$ListN").before a0 Z = true := hw _ (List.mem_of_getElem? (i := 75) rfl)
theorem wd76 {Z : State} {a0 : Array Value} (hw : ∀ d ∈ tables_1, d.before a0 Z = true) : (Jvm.Cond.methodLink "java/util/ImmutableCollections" (20 : Nat) ({ cls := "java/util/Collection", name := "isEmpty", desc := "()Z" } : Jvm.MethodName)).before a0 Z = true := hw _ (List.mem_of_getElem? (i := 76) rfl)
theorem wd77 {Z : State} {a0 : Array Value} (hw : ∀ d ∈ tables_1, d.before a0 Z = true) : (Jvm.Cond.declares ({ cls := "java/util/Collection", name := "isEmpty", desc := "()Z" } : Jvm.MethodName)).before a0 Z = true := hw _ (List.mem_of_getElem? (i := 77) rfl)
theorem wd78 {Z : State} {a0 : Array Value} (hw : ∀ d ∈ tables_1, d.before a0 Z = true) : (Jvm.Cond.interfaceMethod "java/util/Collection" "java/util/Collection" "isEmpty" "()Z").before a0 Z = true := hw _ (List.mem_of_getElem? (i := 78) rfl)
theorem wd79 {Z : State} {a0 : Array Value} (hw : ∀ d ∈ tables_1, d.before a0 Z = true) : (Jvm.Cond.selects "java/util/ArrayList" ({ cls := "java/util/Collection", name := "isEmpty", desc := "()Z" } : Jvm.MethodName) ({ cls := "java/util/ArrayList", name := "isEmpty", desc := "()Z" } : Jvm.MethodName)).before a0 Z = true := hw _ (List.mem_of_getElem? (i := 79) rfl)
theorem wd80 {Z : State} {a0 : Array Value} (hw : ∀ d ∈ tables_1, d.before a0 Z = true) : (Jvm.Cond.instanceMethod ({ cls := "java/util/ArrayList", name := "isEmpty", desc := "()Z" } : Jvm.MethodName)).before a0 Z = true := hw _ (List.mem_of_getElem? (i := 80) rfl)
theorem wd81 {Z : State} {a0 : Array Value} (hw : ∀ d ∈ tables_1, d.before a0 Z = true) : (Jvm.Cond.publicMethod ({ cls := "java/util/ArrayList", name := "isEmpty", desc := "()Z" } : Jvm.MethodName)).before a0 Z = true := hw _ (List.mem_of_getElem? (i := 81) rfl)
theorem wd82 {Z : State} {a0 : Array Value} (hw : ∀ d ∈ tables_1, d.before a0 Z = true) : (Jvm.Cond.unhidden "java/util/ArrayList" "isEmpty" "()Z").before a0 Z = true := hw _ (List.mem_of_getElem? (i := 82) rfl)
theorem wd83 {Z : State} {a0 : Array Value} (hw : ∀ d ∈ tables_1, d.before a0 Z = true) : (Jvm.Cond.castable "java/util/ArrayList" "java/util/Collection").before a0 Z = true := hw _ (List.mem_of_getElem? (i := 83) rfl)
theorem wd84 {Z : State} {a0 : Array Value} (hw : ∀ d ∈ tables_1, d.before a0 Z = true) : (Jvm.Cond.code ({ cls := "java/util/ArrayList", name := "isEmpty", desc := "()Z" } : Jvm.MethodName) jdk_38_method_9_code (1 : Nat) (Option.some Jvm.ClassFile.FieldType.boolean)).before a0 Z = true := hw _ (List.mem_of_getElem? (i := 84) rfl)
theorem wd85 {Z : State} {a0 : Array Value} (hw : ∀ d ∈ tables_1, d.before a0 Z = true) : (Jvm.Cond.fieldLink "java/util/ArrayList" (48 : Nat) "java/util/ArrayList" "size" "I").before a0 Z = true := hw _ (List.mem_of_getElem? (i := 85) rfl)
theorem wd86 {Z : State} {a0 : Array Value} (hw : ∀ d ∈ tables_1, d.before a0 Z = true) : (Jvm.Cond.lays "java/util/ArrayList" "java/util/ArrayList" "size" "I").before a0 Z = true := hw _ (List.mem_of_getElem? (i := 86) rfl)
theorem wd87 {Z : State} {a0 : Array Value} (hw : ∀ d ∈ tables_1, d.before a0 Z = true) : (Jvm.Cond.methodLink "java/util/ImmutableCollections" (26 : Nat) ({ cls := "java/util/List", name := "of", desc := "()Ljava/util/List;" } : Jvm.MethodName)).before a0 Z = true := hw _ (List.mem_of_getElem? (i := 87) rfl)
theorem wd88 {Z : State} {a0 : Array Value} (hw : ∀ d ∈ tables_1, d.before a0 Z = true) : (Jvm.Cond.static ({ cls := "java/util/List", name := "of", desc := "()Ljava/util/List;" } : Jvm.MethodName)).before a0 Z = true := hw _ (List.mem_of_getElem? (i := 88) rfl)
theorem wd89 {Z : State} {a0 : Array Value} (hw : ∀ d ∈ tables_1, d.before a0 Z = true) : (Jvm.Cond.code ({ cls := "java/util/List", name := "of", desc := "()Ljava/util/List;" } : Jvm.MethodName) jdk_40_method_36_code (0 : Nat) (Option.some (Jvm.ClassFile.FieldType.object "java/util/List"))).before a0 Z = true := hw _ (List.mem_of_getElem? (i := 89) rfl)
theorem wd90 {Z : State} {a0 : Array Value} (hw : ∀ d ∈ tables_1, d.before a0 Z = true) : (Jvm.Cond.fieldLink "java/util/List" (90 : Nat) "java/util/ImmutableCollections" "EMPTY_LIST" "Ljava/util/ImmutableCollections$ListN;").before a0 Z = true := hw _ (List.mem_of_getElem? (i := 90) rfl)
theorem wd91 {Z : State} {a0 : Array Value} (hw : ∀ d ∈ tables_1, d.before a0 Z = true) : (Jvm.Cond.fieldLink "com/example/hybrev/hybrev/EventPage" (13 : Nat) "com/example/hybrev/hybrev/EventPage" "events" "Ljava/util/List;").before a0 Z = true := hw _ (List.mem_of_getElem? (i := 91) rfl)
theorem wd92 {Z : State} {a0 : Array Value} (hw : ∀ d ∈ tables_1, d.before a0 Z = true) : (Jvm.Cond.laysFinal "com/example/hybrev/hybrev/EventPage" "com/example/hybrev/hybrev/EventPage" "events" "Ljava/util/List;").before a0 Z = true := hw _ (List.mem_of_getElem? (i := 92) rfl)
theorem wd93 {Z : State} {a0 : Array Value} (hw : ∀ d ∈ tables_1, d.before a0 Z = true) : (Jvm.Cond.stringLink "com/example/hybrev/hybrev/EventPage" (27 : Nat) "next").before a0 Z = true := hw _ (List.mem_of_getElem? (i := 93) rfl)
theorem wd94 {Z : State} {a0 : Array Value} (hw : ∀ d ∈ tables_1, d.before a0 Z = true) : (Jvm.Cond.methodLink "com/example/hybrev/hybrev/EventPage" (28 : Nat) ({ cls := "java/util/Objects", name := "requireNonNull", desc := "(Ljava/lang/Object;Ljava/lang/String;)Ljava/lang/Object;" } : Jvm.MethodName)).before a0 Z = true := hw _ (List.mem_of_getElem? (i := 94) rfl)
theorem wd95 {Z : State} {a0 : Array Value} (hw : ∀ d ∈ tables_1, d.before a0 Z = true) : (Jvm.Cond.static ({ cls := "java/util/Objects", name := "requireNonNull", desc := "(Ljava/lang/Object;Ljava/lang/String;)Ljava/lang/Object;" } : Jvm.MethodName)).before a0 Z = true := hw _ (List.mem_of_getElem? (i := 95) rfl)
theorem wd96 {Z : State} {a0 : Array Value} (hw : ∀ d ∈ tables_1, d.before a0 Z = true) : (Jvm.Cond.initialized "java/util/Objects").before a0 Z = true := hw _ (List.mem_of_getElem? (i := 96) rfl)
theorem wd97 {Z : State} {a0 : Array Value} (hw : ∀ d ∈ tables_1, d.before a0 Z = true) : (Jvm.Cond.code ({ cls := "java/util/Objects", name := "requireNonNull", desc := "(Ljava/lang/Object;Ljava/lang/String;)Ljava/lang/Object;" } : Jvm.MethodName) jdk_31_method_11_code (2 : Nat) (Option.some (Jvm.ClassFile.FieldType.object "java/lang/Object"))).before a0 Z = true := hw _ (List.mem_of_getElem? (i := 97) rfl)
theorem wd98 {Z : State} {a0 : Array Value} (hw : ∀ d ∈ tables_1, d.before a0 Z = true) : (Jvm.Cond.classLink "com/example/hybrev/hybrev/EventPage" (34 : Nat) "java/lang/String").before a0 Z = true := hw _ (List.mem_of_getElem? (i := 98) rfl)
theorem wd99 {Z : State} {a0 : Array Value} (hw : ∀ d ∈ tables_1, d.before a0 Z = true) : (Jvm.Cond.fieldLink "com/example/hybrev/hybrev/EventPage" (19 : Nat) "com/example/hybrev/hybrev/EventPage" "next" "Ljava/lang/String;").before a0 Z = true := hw _ (List.mem_of_getElem? (i := 99) rfl)
theorem wd100 {Z : State} {a0 : Array Value} (hw : ∀ d ∈ tables_1, d.before a0 Z = true) : (Jvm.Cond.laysFinal "com/example/hybrev/hybrev/EventPage" "com/example/hybrev/hybrev/EventPage" "next" "Ljava/lang/String;").before a0 Z = true := hw _ (List.mem_of_getElem? (i := 100) rfl)
theorem wd101 {Z : State} {a0 : Array Value} (hw : ∀ d ∈ tables_1, d.before a0 Z = true) : (Jvm.Cond.methodLink "com/example/hybrev/hybrev/EventPageIsMissedPinLaw" (43 : Nat) ({ cls := "com/example/hybrev/hybrev/EventPage", name := "isMissed", desc := "()Z" } : Jvm.MethodName)).before a0 Z = true := hw _ (List.mem_of_getElem? (i := 101) rfl)
theorem wd102 {Z : State} {a0 : Array Value} (hw : ∀ d ∈ tables_1, d.before a0 Z = true) : (Jvm.Cond.declares ({ cls := "com/example/hybrev/hybrev/EventPage", name := "isMissed", desc := "()Z" } : Jvm.MethodName)).before a0 Z = true := hw _ (List.mem_of_getElem? (i := 102) rfl)
theorem wd103 {Z : State} {a0 : Array Value} (hw : ∀ d ∈ tables_1, d.before a0 Z = true) : (Jvm.Cond.instanceMethod ({ cls := "com/example/hybrev/hybrev/EventPage", name := "isMissed", desc := "()Z" } : Jvm.MethodName)).before a0 Z = true := hw _ (List.mem_of_getElem? (i := 103) rfl)
theorem wd104 {Z : State} {a0 : Array Value} (hw : ∀ d ∈ tables_1, d.before a0 Z = true) : (Jvm.Cond.selects "com/example/hybrev/hybrev/EventPage" ({ cls := "com/example/hybrev/hybrev/EventPage", name := "isMissed", desc := "()Z" } : Jvm.MethodName) ({ cls := "com/example/hybrev/hybrev/EventPage", name := "isMissed", desc := "()Z" } : Jvm.MethodName)).before a0 Z = true := hw _ (List.mem_of_getElem? (i := 104) rfl)
theorem wd105 {Z : State} {a0 : Array Value} (hw : ∀ d ∈ tables_1, d.before a0 Z = true) : (Jvm.Cond.code ({ cls := "com/example/hybrev/hybrev/EventPage", name := "isMissed", desc := "()Z" } : Jvm.MethodName) prog_5_method_4_code (1 : Nat) (Option.some Jvm.ClassFile.FieldType.boolean)).before a0 Z = true := hw _ (List.mem_of_getElem? (i := 105) rfl)
theorem wd106 {Z : State} {a0 : Array Value} (hw : ∀ d ∈ tables_1, d.before a0 Z = true) : (Jvm.Cond.methodLink "com/example/hybrev/hybrev/EventPageIsMissedPinLaw" (47 : Nat) ({ cls := "com/example/hybrev/hybrev/EventPage", name := "getNext", desc := "()Ljava/lang/String;" } : Jvm.MethodName)).before a0 Z = true := hw _ (List.mem_of_getElem? (i := 106) rfl)
theorem wd107 {Z : State} {a0 : Array Value} (hw : ∀ d ∈ tables_1, d.before a0 Z = true) : (Jvm.Cond.declares ({ cls := "com/example/hybrev/hybrev/EventPage", name := "getNext", desc := "()Ljava/lang/String;" } : Jvm.MethodName)).before a0 Z = true := hw _ (List.mem_of_getElem? (i := 107) rfl)
theorem wd108 {Z : State} {a0 : Array Value} (hw : ∀ d ∈ tables_1, d.before a0 Z = true) : (Jvm.Cond.instanceMethod ({ cls := "com/example/hybrev/hybrev/EventPage", name := "getNext", desc := "()Ljava/lang/String;" } : Jvm.MethodName)).before a0 Z = true := hw _ (List.mem_of_getElem? (i := 108) rfl)
theorem wd109 {Z : State} {a0 : Array Value} (hw : ∀ d ∈ tables_1, d.before a0 Z = true) : (Jvm.Cond.selects "com/example/hybrev/hybrev/EventPage" ({ cls := "com/example/hybrev/hybrev/EventPage", name := "getNext", desc := "()Ljava/lang/String;" } : Jvm.MethodName) ({ cls := "com/example/hybrev/hybrev/EventPage", name := "getNext", desc := "()Ljava/lang/String;" } : Jvm.MethodName)).before a0 Z = true := hw _ (List.mem_of_getElem? (i := 109) rfl)
theorem wd110 {Z : State} {a0 : Array Value} (hw : ∀ d ∈ tables_1, d.before a0 Z = true) : (Jvm.Cond.code ({ cls := "com/example/hybrev/hybrev/EventPage", name := "getNext", desc := "()Ljava/lang/String;" } : Jvm.MethodName) prog_5_method_6_code (1 : Nat) (Option.some (Jvm.ClassFile.FieldType.object "java/lang/String"))).before a0 Z = true := hw _ (List.mem_of_getElem? (i := 110) rfl)
theorem wd111 {Z : State} {a0 : Array Value} (hw : ∀ d ∈ tables_1, d.before a0 Z = true) : (Jvm.Cond.methodLink "com/example/hybrev/hybrev/EventPageIsMissedPinLaw" (7 : Nat) ({ cls := "com/example/hybrev/hybrev/EventPage", name := "missed", desc := "()Lcom/example/hybrev/hybrev/EventPage;" } : Jvm.MethodName)).before a0 Z = true := hw _ (List.mem_of_getElem? (i := 111) rfl)
theorem wd112 {Z : State} {a0 : Array Value} (hw : ∀ d ∈ tables_1, d.before a0 Z = true) : (Jvm.Cond.static ({ cls := "com/example/hybrev/hybrev/EventPage", name := "missed", desc := "()Lcom/example/hybrev/hybrev/EventPage;" } : Jvm.MethodName)).before a0 Z = true := hw _ (List.mem_of_getElem? (i := 112) rfl)
theorem wd113 {Z : State} {a0 : Array Value} (hw : ∀ d ∈ tables_1, d.before a0 Z = true) : (Jvm.Cond.code ({ cls := "com/example/hybrev/hybrev/EventPage", name := "missed", desc := "()Lcom/example/hybrev/hybrev/EventPage;" } : Jvm.MethodName) prog_5_method_3_code (0 : Nat) (Option.some (Jvm.ClassFile.FieldType.object "com/example/hybrev/hybrev/EventPage"))).before a0 Z = true := hw _ (List.mem_of_getElem? (i := 113) rfl)
theorem wd114 {Z : State} {a0 : Array Value} (hw : ∀ d ∈ tables_1, d.before a0 Z = true) : (Jvm.Cond.fieldLink "com/example/hybrev/hybrev/EventPage" (36 : Nat) "com/example/hybrev/hybrev/EventPage" "MISSED" "Lcom/example/hybrev/hybrev/EventPage;").before a0 Z = true := hw _ (List.mem_of_getElem? (i := 114) rfl)
theorem wd115 {Z : State} {a0 : Array Value} (hw : ∀ d ∈ tables_1, d.before a0 Z = true) : (Jvm.Cond.laysStatic "com/example/hybrev/hybrev/EventPage" "MISSED" "Lcom/example/hybrev/hybrev/EventPage;").before a0 Z = true := hw _ (List.mem_of_getElem? (i := 115) rfl)
theorem wd116 {Z : State} {a0 : Array Value} (hw : ∀ d ∈ tables_1, d.before a0 Z = true) : (Jvm.Cond.methodLink "com/example/hybrev/hybrev/EventPageIsMissedPinLaw" (51 : Nat) ({ cls := "com/example/hybrev/hybrev/EventPage", name := "getEvents", desc := "()Ljava/util/List;" } : Jvm.MethodName)).before a0 Z = true := hw _ (List.mem_of_getElem? (i := 116) rfl)
theorem wd117 {Z : State} {a0 : Array Value} (hw : ∀ d ∈ tables_1, d.before a0 Z = true) : (Jvm.Cond.declares ({ cls := "com/example/hybrev/hybrev/EventPage", name := "getEvents", desc := "()Ljava/util/List;" } : Jvm.MethodName)).before a0 Z = true := hw _ (List.mem_of_getElem? (i := 117) rfl)
theorem wd118 {Z : State} {a0 : Array Value} (hw : ∀ d ∈ tables_1, d.before a0 Z = true) : (Jvm.Cond.instanceMethod ({ cls := "com/example/hybrev/hybrev/EventPage", name := "getEvents", desc := "()Ljava/util/List;" } : Jvm.MethodName)).before a0 Z = true := hw _ (List.mem_of_getElem? (i := 118) rfl)
theorem wd119 {Z : State} {a0 : Array Value} (hw : ∀ d ∈ tables_1, d.before a0 Z = true) : (Jvm.Cond.selects "com/example/hybrev/hybrev/EventPage" ({ cls := "com/example/hybrev/hybrev/EventPage", name := "getEvents", desc := "()Ljava/util/List;" } : Jvm.MethodName) ({ cls := "com/example/hybrev/hybrev/EventPage", name := "getEvents", desc := "()Ljava/util/List;" } : Jvm.MethodName)).before a0 Z = true := hw _ (List.mem_of_getElem? (i := 119) rfl)
theorem wd120 {Z : State} {a0 : Array Value} (hw : ∀ d ∈ tables_1, d.before a0 Z = true) : (Jvm.Cond.code ({ cls := "com/example/hybrev/hybrev/EventPage", name := "getEvents", desc := "()Ljava/util/List;" } : Jvm.MethodName) prog_5_method_5_code (1 : Nat) (Option.some (Jvm.ClassFile.FieldType.object "java/util/List"))).before a0 Z = true := hw _ (List.mem_of_getElem? (i := 120) rfl)
theorem wd121 {Z : State} {a0 : Array Value} (hw : ∀ d ∈ tables_1, d.before a0 Z = true) : (Jvm.Cond.methodLink "com/example/hybrev/hybrev/EventPageIsMissedPinLaw" (55 : Nat) ({ cls := "java/util/List", name := "isEmpty", desc := "()Z" } : Jvm.MethodName)).before a0 Z = true := hw _ (List.mem_of_getElem? (i := 121) rfl)
theorem wd122 {Z : State} {a0 : Array Value} (hw : ∀ d ∈ tables_1, d.before a0 Z = true) : (Jvm.Cond.declares ({ cls := "java/util/List", name := "isEmpty", desc := "()Z" } : Jvm.MethodName)).before a0 Z = true := hw _ (List.mem_of_getElem? (i := 122) rfl)
theorem wd123 {Z : State} {a0 : Array Value} (hw : ∀ d ∈ tables_1, d.before a0 Z = true) : (Jvm.Cond.interfaceMethod "java/util/List" "java/util/List" "isEmpty" "()Z").before a0 Z = true := hw _ (List.mem_of_getElem? (i := 123) rfl)
theorem wd124 {Z : State} {a0 : Array Value} (hw : ∀ d ∈ tables_1, d.before a0 Z = true) : (Jvm.Cond.selects "java/util/ImmutableCollections$ListN" ({ cls := "java/util/List", name := "isEmpty", desc := "()Z" } : Jvm.MethodName) ({ cls := "java/util/ImmutableCollections$ListN", name := "isEmpty", desc := "()Z" } : Jvm.MethodName)).before a0 Z = true := hw _ (List.mem_of_getElem? (i := 124) rfl)
theorem wd125 {Z : State} {a0 : Array Value} (hw : ∀ d ∈ tables_1, d.before a0 Z = true) : (Jvm.Cond.instanceMethod ({ cls := "java/util/ImmutableCollections$ListN", name := "isEmpty", desc := "()Z" } : Jvm.MethodName)).before a0 Z = true := hw _ (List.mem_of_getElem? (i := 125) rfl)
theorem wd126 {Z : State} {a0 : Array Value} (hw : ∀ d ∈ tables_1, d.before a0 Z = true) : (Jvm.Cond.publicMethod ({ cls := "java/util/ImmutableCollections$ListN", name := "isEmpty", desc := "()Z" } : Jvm.MethodName)).before a0 Z = true := hw _ (List.mem_of_getElem? (i := 126) rfl)
theorem wd127 {Z : State} {a0 : Array Value} (hw : ∀ d ∈ tables_1, d.before a0 Z = true) : (Jvm.Cond.unhidden "java/util/ImmutableCollections$ListN" "isEmpty" "()Z").before a0 Z = true := hw _ (List.mem_of_getElem? (i := 127) rfl)
theorem wd128 {Z : State} {a0 : Array Value} (hw : ∀ d ∈ tables_1, d.before a0 Z = true) : (Jvm.Cond.castable "java/util/ImmutableCollections$ListN" "java/util/List").before a0 Z = true := hw _ (List.mem_of_getElem? (i := 128) rfl)
theorem wd129 {Z : State} {a0 : Array Value} (hw : ∀ d ∈ tables_1, d.before a0 Z = true) : (Jvm.Cond.initialized "java/util/ImmutableCollections$ListN").before a0 Z = true := hw _ (List.mem_of_getElem? (i := 129) rfl)
theorem wd130 {Z : State} {a0 : Array Value} (hw : ∀ d ∈ tables_1, d.before a0 Z = true) : (Jvm.Cond.code ({ cls := "java/util/ImmutableCollections$ListN", name := "isEmpty", desc := "()Z" } : Jvm.MethodName) jdk_45_method_2_code (1 : Nat) (Option.some Jvm.ClassFile.FieldType.boolean)).before a0 Z = true := hw _ (List.mem_of_getElem? (i := 130) rfl)
theorem wd131 {Z : State} {a0 : Array Value} (hw : ∀ d ∈ tables_1, d.before a0 Z = true) : (Jvm.Cond.fieldLink "java/util/ImmutableCollections$ListN" (7 : Nat) "java/util/ImmutableCollections$ListN" "elements" "[Ljava/lang/Object;").before a0 Z = true := hw _ (List.mem_of_getElem? (i := 131) rfl)
theorem wd144 {Z : State} {a0 : Array Value} (hw : ∀ d ∈ tables_1, d.before a0 Z = true) : (Jvm.Cond.classLink "com/example/hybrev/hybrev/EventPageIsMissedPinLaw" (31 : Nat) "com/example/hybrev/hybrev/RevocationEvent").before a0 Z = true := hw _ (List.mem_of_getElem? (i := 144) rfl)
theorem wd145 {Z : State} {a0 : Array Value} (hw : ∀ d ∈ tables_1, d.before a0 Z = true) : (Jvm.Cond.instantiable "com/example/hybrev/hybrev/RevocationEvent" (2 : Nat)).before a0 Z = true := hw _ (List.mem_of_getElem? (i := 145) rfl)
theorem wd146 {Z : State} {a0 : Array Value} (hw : ∀ d ∈ tables_1, d.before a0 Z = true) : (Jvm.Cond.initialized "com/example/hybrev/hybrev/RevocationEvent").before a0 Z = true := hw _ (List.mem_of_getElem? (i := 146) rfl)
theorem wd147 {Z : State} {a0 : Array Value} (hw : ∀ d ∈ tables_1, d.before a0 Z = true) : (Jvm.Cond.methodLink "com/example/hybrev/hybrev/EventPageIsMissedPinLaw" (33 : Nat) ({ cls := "com/example/hybrev/hybrev/RevocationEvent", name := "<init>", desc := "(Lcom/example/hybrev/hybrev/RevocationEvent$Kind;Ljava/lang/String;)V" } : Jvm.MethodName)).before a0 Z = true := hw _ (List.mem_of_getElem? (i := 147) rfl)
theorem wd148 {Z : State} {a0 : Array Value} (hw : ∀ d ∈ tables_1, d.before a0 Z = true) : (Jvm.Cond.instanceMethod ({ cls := "com/example/hybrev/hybrev/RevocationEvent", name := "<init>", desc := "(Lcom/example/hybrev/hybrev/RevocationEvent$Kind;Ljava/lang/String;)V" } : Jvm.MethodName)).before a0 Z = true := hw _ (List.mem_of_getElem? (i := 148) rfl)
theorem wd149 {Z : State} {a0 : Array Value} (hw : ∀ d ∈ tables_1, d.before a0 Z = true) : (Jvm.Cond.code ({ cls := "com/example/hybrev/hybrev/RevocationEvent", name := "<init>", desc := "(Lcom/example/hybrev/hybrev/RevocationEvent$Kind;Ljava/lang/String;)V" } : Jvm.MethodName) prog_16_method_1_code (3 : Nat) (Option.none : Option Jvm.ClassFile.FieldType)).before a0 Z = true := hw _ (List.mem_of_getElem? (i := 149) rfl)
theorem wd150 {Z : State} {a0 : Array Value} (hw : ∀ d ∈ tables_1, d.before a0 Z = true) : (Jvm.Cond.methodLink "com/example/hybrev/hybrev/RevocationEvent" (1 : Nat) ({ cls := "java/lang/Object", name := "<init>", desc := "()V" } : Jvm.MethodName)).before a0 Z = true := hw _ (List.mem_of_getElem? (i := 150) rfl)
theorem wd151 {Z : State} {a0 : Array Value} (hw : ∀ d ∈ tables_1, d.before a0 Z = true) : (Jvm.Cond.fieldLink "com/example/hybrev/hybrev/RevocationEvent" (7 : Nat) "com/example/hybrev/hybrev/RevocationEvent" "kind" "Lcom/example/hybrev/hybrev/RevocationEvent$Kind;").before a0 Z = true := hw _ (List.mem_of_getElem? (i := 151) rfl)
theorem wd152 {Z : State} {a0 : Array Value} (hw : ∀ d ∈ tables_1, d.before a0 Z = true) : (Jvm.Cond.laysFinal "com/example/hybrev/hybrev/RevocationEvent" "com/example/hybrev/hybrev/RevocationEvent" "kind" "Lcom/example/hybrev/hybrev/RevocationEvent$Kind;").before a0 Z = true := hw _ (List.mem_of_getElem? (i := 152) rfl)
theorem wd153 {Z : State} {a0 : Array Value} (hw : ∀ d ∈ tables_1, d.before a0 Z = true) : (Jvm.Cond.fieldLink "com/example/hybrev/hybrev/RevocationEvent" (13 : Nat) "com/example/hybrev/hybrev/RevocationEvent" "id" "Ljava/lang/String;").before a0 Z = true := hw _ (List.mem_of_getElem? (i := 153) rfl)
theorem wd154 {Z : State} {a0 : Array Value} (hw : ∀ d ∈ tables_1, d.before a0 Z = true) : (Jvm.Cond.laysFinal "com/example/hybrev/hybrev/RevocationEvent" "com/example/hybrev/hybrev/RevocationEvent" "id" "Ljava/lang/String;").before a0 Z = true := hw _ (List.mem_of_getElem? (i := 154) rfl)
theorem wd155 {Z : State} {a0 : Array Value} (hw : ∀ d ∈ tables_1, d.before a0 Z = true) : (Jvm.Cond.methodLink "com/example/hybrev/hybrev/EventPageIsMissedPinLaw" (36 : Nat) ({ cls := "java/util/ArrayList", name := "add", desc := "(Ljava/lang/Object;)Z" } : Jvm.MethodName)).before a0 Z = true := hw _ (List.mem_of_getElem? (i := 155) rfl)
theorem wd156 {Z : State} {a0 : Array Value} (hw : ∀ d ∈ tables_1, d.before a0 Z = true) : (Jvm.Cond.declares ({ cls := "java/util/ArrayList", name := "add", desc := "(Ljava/lang/Object;)Z" } : Jvm.MethodName)).before a0 Z = true := hw _ (List.mem_of_getElem? (i := 156) rfl)
theorem wd157 {Z : State} {a0 : Array Value} (hw : ∀ d ∈ tables_1, d.before a0 Z = true) : (Jvm.Cond.instanceMethod ({ cls := "java/util/ArrayList", name := "add", desc := "(Ljava/lang/Object;)Z" } : Jvm.MethodName)).before a0 Z = true := hw _ (List.mem_of_getElem? (i := 157) rfl)
theorem wd158 {Z : State} {a0 : Array Value} (hw : ∀ d ∈ tables_1, d.before a0 Z = true) : (Jvm.Cond.selects "java/util/ArrayList" ({ cls := "java/util/ArrayList", name := "add", desc := "(Ljava/lang/Object;)Z" } : Jvm.MethodName) ({ cls := "java/util/ArrayList", name := "add", desc := "(Ljava/lang/Object;)Z" } : Jvm.MethodName)).before a0 Z = true := hw _ (List.mem_of_getElem? (i := 158) rfl)
theorem wd159 {Z : State} {a0 : Array Value} (hw : ∀ d ∈ tables_1, d.before a0 Z = true) : (Jvm.Cond.code ({ cls := "java/util/ArrayList", name := "add", desc := "(Ljava/lang/Object;)Z" } : Jvm.MethodName) jdk_38_method_25_code (2 : Nat) (Option.some Jvm.ClassFile.FieldType.boolean)).before a0 Z = true := hw _ (List.mem_of_getElem? (i := 159) rfl)
theorem wd160 {Z : State} {a0 : Array Value} (hw : ∀ d ∈ tables_1, d.before a0 Z = true) : (Jvm.Cond.fieldLink "java/util/ArrayList" (63 : Nat) "java/util/ArrayList" "modCount" "I").before a0 Z = true := hw _ (List.mem_of_getElem? (i := 160) rfl)
theorem wd161 {Z : State} {a0 : Array Value} (hw : ∀ d ∈ tables_1, d.before a0 Z = true) : (Jvm.Cond.sameField "java/util/ArrayList" "java/util/AbstractList" "modCount" "I").before a0 Z = true := hw _ (List.mem_of_getElem? (i := 161) rfl)
theorem wd162 {Z : State} {a0 : Array Value} (hw : ∀ d ∈ tables_1, d.before a0 Z = true) : (Jvm.Cond.methodLink "java/util/ArrayList" (131 : Nat) ({ cls := "java/util/ArrayList", name := "add", desc := "(Ljava/lang/Object;[Ljava/lang/Object;I)V" } : Jvm.MethodName)).before a0 Z = true := hw _ (List.mem_of_getElem? (i := 162) rfl)
theorem wd163 {Z : State} {a0 : Array Value} (hw : ∀ d ∈ tables_1, d.before a0 Z = true) : (Jvm.Cond.instanceMethod ({ cls := "java/util/ArrayList", name := "add", desc := "(Ljava/lang/Object;[Ljava/lang/Object;I)V" } : Jvm.MethodName)).before a0 Z = true := hw _ (List.mem_of_getElem? (i := 163) rfl)
theorem wd164 {Z : State} {a0 : Array Value} (hw : ∀ d ∈ tables_1, d.before a0 Z = true) : (Jvm.Cond.privateMethod ({ cls := "java/util/ArrayList", name := "add", desc := "(Ljava/lang/Object;[Ljava/lang/Object;I)V" } : Jvm.MethodName)).before a0 Z = true := hw _ (List.mem_of_getElem? (i := 164) rfl)
theorem wd165 {Z : State} {a0 : Array Value} (hw : ∀ d ∈ tables_1, d.before a0 Z = true) : (Jvm.Cond.selects "java/util/ArrayList" ({ cls := "java/util/ArrayList", name := "add", desc := "(Ljava/lang/Object;[Ljava/lang/Object;I)V" } : Jvm.MethodName) ({ cls := "java/util/ArrayList", name := "add", desc := "(Ljava/lang/Object;[Ljava/lang/Object;I)V" } : Jvm.MethodName)).before a0 Z = true := hw _ (List.mem_of_getElem? (i := 165) rfl)
theorem wd166 {Z : State} {a0 : Array Value} (hw : ∀ d ∈ tables_1, d.before a0 Z = true) : (Jvm.Cond.code ({ cls := "java/util/ArrayList", name := "add", desc := "(Ljava/lang/Object;[Ljava/lang/Object;I)V" } : Jvm.MethodName) jdk_38_method_24_code (4 : Nat) (Option.none : Option Jvm.ClassFile.FieldType)).before a0 Z = true := hw _ (List.mem_of_getElem? (i := 166) rfl)
theorem wd167 {Z : State} {a0 : Array Value} (hw : ∀ d ∈ tables_1, d.before a0 Z = true) : (Jvm.Cond.methodLink "java/util/ArrayList" (129 : Nat) ({ cls := "java/util/ArrayList", name := "grow", desc := "()[Ljava/lang/Object;" } : Jvm.MethodName)).before a0 Z = true := hw _ (List.mem_of_getElem? (i := 167) rfl)
theorem wd168 {Z : State} {a0 : Array Value} (hw : ∀ d ∈ tables_1, d.before a0 Z = true) : (Jvm.Cond.instanceMethod ({ cls := "java/util/ArrayList", name := "grow", desc := "()[Ljava/lang/Object;" } : Jvm.MethodName)).before a0 Z = true := hw _ (List.mem_of_getElem? (i := 168) rfl)
theorem wd169 {Z : State} {a0 : Array Value} (hw : ∀ d ∈ tables_1, d.before a0 Z = true) : (Jvm.Cond.privateMethod ({ cls := "java/util/ArrayList", name := "grow", desc := "()[Ljava/lang/Object;" } : Jvm.MethodName)).before a0 Z = true := hw _ (List.mem_of_getElem? (i := 169) rfl)
theorem wd170 {Z : State} {a0 : Array Value} (hw : ∀ d ∈ tables_1, d.before a0 Z = true) : (Jvm.Cond.selects "java/util/ArrayList" ({ cls := "java/util/ArrayList", name := "grow", desc := "()[Ljava/lang/Object;" } : Jvm.MethodName) ({ cls := "java/util/ArrayList", name := "grow", desc := "()[Ljava/lang/Object;" } : Jvm.MethodName)).before a0 Z = true := hw _ (List.mem_of_getElem? (i := 170) rfl)
theorem wd171 {Z : State} {a0 : Array Value} (hw : ∀ d ∈ tables_1, d.before a0 Z = true) : (Jvm.Cond.code ({ cls := "java/util/ArrayList", name := "grow", desc := "()[Ljava/lang/Object;" } : Jvm.MethodName) jdk_38_method_7_code (1 : Nat) (Option.some (Jvm.ClassFile.FieldType.array (Jvm.ClassFile.FieldType.object "java/lang/Object")))).before a0 Z = true := hw _ (List.mem_of_getElem? (i := 171) rfl)
theorem wd172 {Z : State} {a0 : Array Value} (hw : ∀ d ∈ tables_1, d.before a0 Z = true) : (Jvm.Cond.methodLink "java/util/ArrayList" (69 : Nat) ({ cls := "java/util/ArrayList", name := "grow", desc := "(I)[Ljava/lang/Object;" } : Jvm.MethodName)).before a0 Z = true := hw _ (List.mem_of_getElem? (i := 172) rfl)
theorem wd173 {Z : State} {a0 : Array Value} (hw : ∀ d ∈ tables_1, d.before a0 Z = true) : (Jvm.Cond.instanceMethod ({ cls := "java/util/ArrayList", name := "grow", desc := "(I)[Ljava/lang/Object;" } : Jvm.MethodName)).before a0 Z = true := hw _ (List.mem_of_getElem? (i := 173) rfl)
theorem wd174 {Z : State} {a0 : Array Value} (hw : ∀ d ∈ tables_1, d.before a0 Z = true) : (Jvm.Cond.privateMethod ({ cls := "java/util/ArrayList", name := "grow", desc := "(I)[Ljava/lang/Object;" } : Jvm.MethodName)).before a0 Z = true := hw _ (List.mem_of_getElem? (i := 174) rfl)
theorem wd175 {Z : State} {a0 : Array Value} (hw : ∀ d ∈ tables_1, d.before a0 Z = true) : (Jvm.Cond.selects "java/util/ArrayList" ({ cls := "java/util/ArrayList", name := "grow", desc := "(I)[Ljava/lang/Object;" } : Jvm.MethodName) ({ cls := "java/util/ArrayList", name := "grow", desc := "(I)[Ljava/lang/Object;" } : Jvm.MethodName)).before a0 Z = true := hw _ (List.mem_of_getElem? (i := 175) rfl)
theorem wd176 {Z : State} {a0 : Array Value} (hw : ∀ d ∈ tables_1, d.before a0 Z = true) : (Jvm.Cond.code ({ cls := "java/util/ArrayList", name := "grow", desc := "(I)[Ljava/lang/Object;" } : Jvm.MethodName) jdk_38_method_6_code (4 : Nat) (Option.some (Jvm.ClassFile.FieldType.array (Jvm.ClassFile.FieldType.object "java/lang/Object")))).before a0 Z = true := hw _ (List.mem_of_getElem? (i := 176) rfl)
theorem wd177 {Z : State} {a0 : Array Value} (hw : ∀ d ∈ tables_1, d.before a0 Z = true) : (Jvm.Cond.methodLink "java/util/ArrayList" (79 : Nat) ({ cls := "java/lang/Math", name := "max", desc := "(II)I" } : Jvm.MethodName)).before a0 Z = true := hw _ (List.mem_of_getElem? (i := 177) rfl)
theorem wd178 {Z : State} {a0 : Array Value} (hw : ∀ d ∈ tables_1, d.before a0 Z = true) : (Jvm.Cond.static ({ cls := "java/lang/Math", name := "max", desc := "(II)I" } : Jvm.MethodName)).before a0 Z = true := hw _ (List.mem_of_getElem? (i := 178) rfl)
theorem wd179 {Z : State} {a0 : Array Value} (hw : ∀ d ∈ tables_1, d.before a0 Z = true) : (Jvm.Cond.initialized "java/lang/Math").before a0 Z = true := hw _ (List.mem_of_getElem? (i := 179) rfl)
theorem wd180 {Z : State} {a0 : Array Value} (hw : ∀ d ∈ tables_1, d.before a0 Z = true) : (Jvm.Cond.code ({ cls := "java/lang/Math", name := "max", desc := "(II)I" } : Jvm.MethodName) jdk_29_method_65_code (2 : Nat) (Option.some Jvm.ClassFile.FieldType.int)).before a0 Z = true := hw _ (List.mem_of_getElem? (i := 180) rfl)
theorem wd181 {Z : State} {a0 : Array Value} (hw : ∀ d ∈ tables_1, d.before a0 Z = true) : (Jvm.Cond.classLink "java/util/ArrayList" (7 : Nat) "java/lang/Object").before a0 Z = true := hw _ (List.mem_of_getElem? (i := 181) rfl)
theorem wd182 {Z : State} {a0 : Array Value} (hw : ∀ d ∈ tables_1, d.before a0 Z = true) : (Jvm.Cond.arrayOver (Jvm.ClassFile.FieldType.object "java/lang/Object")).before a0 Z = true := hw _ (List.mem_of_getElem? (i := 182) rfl)
theorem wd183 {Z : State} {a0 : Array Value} (hw : ∀ d ∈ tables_1, d.before a0 Z = true) : (Jvm.Cond.castable "com/example/hybrev/hybrev/RevocationEvent" "java/lang/Object").before a0 Z = true := hw _ (List.mem_of_getElem? (i := 183) rfl)
theorem wd184 {Z : State} {a0 : Array Value} (hw : ∀ d ∈ tables_1, d.before a0 Z = true) : (Jvm.Cond.methodLink "java/util/ImmutableCollections" (30 : Nat) ({ cls := "java/util/Collection", name := "toArray", desc := "()[Ljava/lang/Object;" } : Jvm.MethodName)).before a0 Z = true := hw _ (List.mem_of_getElem? (i := 184) rfl)
theorem wd185 {Z : State} {a0 : Array Value} (hw : ∀ d ∈ tables_1, d.before a0 Z = true) : (Jvm.Cond.declares ({ cls := "java/util/Collection", name := "toArray", desc := "()[Ljava/lang/Object;" } : Jvm.MethodName)).before a0 Z = true := hw _ (List.mem_of_getElem? (i := 185) rfl)
theorem wd186 {Z : State} {a0 : Array Value} (hw : ∀ d ∈ tables_1, d.before a0 Z = true) : (Jvm.Cond.interfaceMethod "java/util/Collection" "java/util/Collection" "toArray" "()[Ljava/lang/Object;").before a0 Z = true := hw _ (List.mem_of_getElem? (i := 186) rfl)
theorem wd187 {Z : State} {a0 : Array Value} (hw : ∀ d ∈ tables_1, d.before a0 Z = true) : (Jvm.Cond.selects "java/util/ArrayList" ({ cls := "java/util/Collection", name := "toArray", desc := "()[Ljava/lang/Object;" } : Jvm.MethodName) ({ cls := "java/util/ArrayList", name := "toArray", desc := "()[Ljava/lang/Object;" } : Jvm.MethodName)).before a0 Z = true := hw _ (List.mem_of_getElem? (i := 187) rfl)
theorem wd188 {Z : State} {a0 : Array Value} (hw : ∀ d ∈ tables_1, d.before a0 Z = true) : (Jvm.Cond.instanceMethod ({ cls := "java/util/ArrayList", name := "toArray", desc := "()[Ljava/lang/Object;" } : Jvm.MethodName)).before a0 Z = true := hw _ (List.mem_of_getElem? (i := 188) rfl)
theorem wd189 {Z : State} {a0 : Array Value} (hw : ∀ d ∈ tables_1, d.before a0 Z = true) : (Jvm.Cond.publicMethod ({ cls := "java/util/ArrayList", name := "toArray", desc := "()[Ljava/lang/Object;" } : Jvm.MethodName)).before a0 Z = true := hw _ (List.mem_of_getElem? (i := 189) rfl)
theorem wd190 {Z : State} {a0 : Array Value} (hw : ∀ d ∈ tables_1, d.before a0 Z = true) : (Jvm.Cond.unhidden "java/util/ArrayList" "toArray" "()[Ljava/lang/Object;").before a0 Z = true := hw _ (List.mem_of_getElem? (i := 190) rfl)
theorem wd191 {Z : State} {a0 : Array Value} (hw : ∀ d ∈ tables_1, d.before a0 Z = true) : (Jvm.Cond.code ({ cls := "java/util/ArrayList", name := "toArray", desc := "()[Ljava/lang/Object;" } : Jvm.MethodName) jdk_38_method_16_code (1 : Nat) (Option.some (Jvm.ClassFile.FieldType.array (Jvm.ClassFile.FieldType.object "java/lang/Object")))).before a0 Z = true := hw _ (List.mem_of_getElem? (i := 191) rfl)
theorem wd192 {Z : State} {a0 : Array Value} (hw : ∀ d ∈ tables_1, d.before a0 Z = true) : (Jvm.Cond.methodLink "java/util/ArrayList" (66 : Nat) ({ cls := "java/util/Arrays", name := "copyOf", desc := "([Ljava/lang/Object;I)[Ljava/lang/Object;" } : Jvm.MethodName)).before a0 Z = true := hw _ (List.mem_of_getElem? (i := 192) rfl)
theorem wd193 {Z : State} {a0 : Array Value} (hw : ∀ d ∈ tables_1, d.before a0 Z = true) : (Jvm.Cond.static ({ cls := "java/util/Arrays", name := "copyOf", desc := "([Ljava/lang/Object;I)[Ljava/lang/Object;" } : Jvm.MethodName)).before a0 Z = true := hw _ (List.mem_of_getElem? (i := 193) rfl)
theorem wd194 {Z : State} {a0 : Array Value} (hw : ∀ d ∈ tables_1, d.before a0 Z = true) : (Jvm.Cond.initialized "java/util/Arrays").before a0 Z = true := hw _ (List.mem_of_getElem? (i := 194) rfl)
theorem wd195 {Z : State} {a0 : Array Value} (hw : ∀ d ∈ tables_1, d.before a0 Z = true) : (Jvm.Cond.code ({ cls := "java/util/Arrays", name := "copyOf", desc := "([Ljava/lang/Object;I)[Ljava/lang/Object;" } : Jvm.MethodName) jdk_65_method_119_code (2 : Nat) (Option.some (Jvm.ClassFile.FieldType.array (Jvm.ClassFile.FieldType.object "java/lang/Object")))).before a0 Z = true := hw _ (List.mem_of_getElem? (i := 195) rfl)
theorem wd196 {Z : State} {a0 : Array Value} (hw : ∀ d ∈ tables_1, d.before a0 Z = true) : (Jvm.Cond.methodLink "java/util/Arrays" (86 : Nat) ({ cls := "java/lang/Object", name := "getClass", desc := "()Ljava/lang/Class;" } : Jvm.MethodName)).before a0 Z = true := hw _ (List.mem_of_getElem? (i := 196) rfl)
theorem wd197 {Z : State} {a0 : Array Value} (hw : ∀ d ∈ tables_1, d.before a0 Z = true) : (Jvm.Cond.declares ({ cls := "java/lang/Object", name := "getClass", desc := "()Ljava/lang/Class;" } : Jvm.MethodName)).before a0 Z = true := hw _ (List.mem_of_getElem? (i := 197) rfl)
theorem wd198 {Z : State} {a0 : Array Value} (hw : ∀ d ∈ tables_1, d.before a0 Z = true) : (Jvm.Cond.instanceMethod ({ cls := "java/lang/Object", name := "getClass", desc := "()Ljava/lang/Class;" } : Jvm.MethodName)).before a0 Z = true := hw _ (List.mem_of_getElem? (i := 198) rfl)
theorem wd199 {Z : State} {a0 : Array Value} (hw : ∀ d ∈ tables_1, d.before a0 Z = true) : (Jvm.Cond.selects "[Ljava/lang/Object;" ({ cls := "java/lang/Object", name := "getClass", desc := "()Ljava/lang/Class;" } : Jvm.MethodName) ({ cls := "java/lang/Object", name := "getClass", desc := "()Ljava/lang/Class;" } : Jvm.MethodName)).before a0 Z = true := hw _ (List.mem_of_getElem? (i := 199) rfl)
theorem wd200 {Z : State} {a0 : Array Value} (hw : ∀ d ∈ tables_1, d.before a0 Z = true) : (Jvm.Cond.native ({ cls := "java/lang/Object", name := "getClass", desc := "()Ljava/lang/Class;" } : Jvm.MethodName)).before a0 Z = true := hw _ (List.mem_of_getElem? (i := 200) rfl)
theorem wd202 {Z : State} {a0 : Array Value} (hw : ∀ d ∈ tables_1, d.before a0 Z = true) : (Jvm.Cond.methodLink "java/util/Arrays" (300 : Nat) ({ cls := "java/util/Arrays", name := "copyOf", desc := "([Ljava/lang/Object;ILjava/lang/Class;)[Ljava/lang/Object;" } : Jvm.MethodName)).before a0 Z = true := hw _ (List.mem_of_getElem? (i := 202) rfl)
theorem wd203 {Z : State} {a0 : Array Value} (hw : ∀ d ∈ tables_1, d.before a0 Z = true) : (Jvm.Cond.static ({ cls := "java/util/Arrays", name := "copyOf", desc := "([Ljava/lang/Object;ILjava/lang/Class;)[Ljava/lang/Object;" } : Jvm.MethodName)).before a0 Z = true := hw _ (List.mem_of_getElem? (i := 203) rfl)
theorem wd204 {Z : State} {a0 : Array Value} (hw : ∀ d ∈ tables_1, d.before a0 Z = true) : (Jvm.Cond.code ({ cls := "java/util/Arrays", name := "copyOf", desc := "([Ljava/lang/Object;ILjava/lang/Class;)[Ljava/lang/Object;" } : Jvm.MethodName) jdk_65_method_120_code (4 : Nat) (Option.some (Jvm.ClassFile.FieldType.array (Jvm.ClassFile.FieldType.object "java/lang/Object")))).before a0 Z = true := hw _ (List.mem_of_getElem? (i := 204) rfl)
theorem wd205 {Z : State} {a0 : Array Value} (hw : ∀ d ∈ tables_1, d.before a0 Z = true) : (Jvm.Cond.classLink "java/util/Arrays" (110 : Nat) "[Ljava/lang/Object;").before a0 Z = true := hw _ (List.mem_of_getElem? (i := 205) rfl)
theorem wd206 {Z : State} {a0 : Array Value} (hw : ∀ d ∈ tables_1, d.before a0 Z = true) : (Jvm.Cond.classLink "java/util/Arrays" (2 : Nat) "java/lang/Object").before a0 Z = true := hw _ (List.mem_of_getElem? (i := 206) rfl)
theorem wd207 {Z : State} {a0 : Array Value} (hw : ∀ d ∈ tables_1, d.before a0 Z = true) : (Jvm.Cond.methodLink "java/util/Arrays" (304 : Nat) ({ cls := "java/lang/Math", name := "min", desc := "(II)I" } : Jvm.MethodName)).before a0 Z = true := hw _ (List.mem_of_getElem? (i := 207) rfl)
theorem wd208 {Z : State} {a0 : Array Value} (hw : ∀ d ∈ tables_1, d.before a0 Z = true) : (Jvm.Cond.static ({ cls := "java/lang/Math", name := "min", desc := "(II)I" } : Jvm.MethodName)).before a0 Z = true := hw _ (List.mem_of_getElem? (i := 208) rfl)
theorem wd209 {Z : State} {a0 : Array Value} (hw : ∀ d ∈ tables_1, d.before a0 Z = true) : (Jvm.Cond.code ({ cls := "java/lang/Math", name := "min", desc := "(II)I" } : Jvm.MethodName) jdk_29_method_69_code (2 : Nat) (Option.some Jvm.ClassFile.FieldType.int)).before a0 Z = true := hw _ (List.mem_of_getElem? (i := 209) rfl)
theorem wd210 {Z : State} {a0 : Array Value} (hw : ∀ d ∈ tables_1, d.before a0 Z = true) : (Jvm.Cond.methodLink "java/util/Arrays" (150 : Nat) ({ cls := "java/lang/System", name := "arraycopy", desc := "(Ljava/lang/Object;ILjava/lang/Object;II)V" } : Jvm.MethodName)).before a0 Z = true := hw _ (List.mem_of_getElem? (i := 210) rfl)
theorem wd211 {Z : State} {a0 : Array Value} (hw : ∀ d ∈ tables_1, d.before a0 Z = true) : (Jvm.Cond.static ({ cls := "java/lang/System", name := "arraycopy", desc := "(Ljava/lang/Object;ILjava/lang/Object;II)V" } : Jvm.MethodName)).before a0 Z = true := hw _ (List.mem_of_getElem? (i := 211) rfl)
theorem wd212 {Z : State} {a0 : Array Value} (hw : ∀ d ∈ tables_1, d.before a0 Z = true) : (Jvm.Cond.initialized "java/lang/System").before a0 Z = true := hw _ (List.mem_of_getElem? (i := 212) rfl)
theorem wd213 {Z : State} {a0 : Array Value} (hw : ∀ d ∈ tables_1, d.before a0 Z = true) : (Jvm.Cond.native ({ cls := "java/lang/System", name := "arraycopy", desc := "(Ljava/lang/Object;ILjava/lang/Object;II)V" } : Jvm.MethodName)).before a0 Z = true := hw _ (List.mem_of_getElem? (i := 213) rfl)
theorem wd214 {Z : State} {a0 : Array Value} (hw : ∀ d ∈ tables_1, d.before a0 Z = true) : (Jvm.Cond.methodLink "java/util/ImmutableCollections" (34 : Nat) ({ cls := "java/util/List", name := "of", desc := "([Ljava/lang/Object;)Ljava/util/List;" } : Jvm.MethodName)).before a0 Z = true := hw _ (List.mem_of_getElem? (i := 214) rfl)
theorem wd215 {Z : State} {a0 : Array Value} (hw : ∀ d ∈ tables_1, d.before a0 Z = true) : (Jvm.Cond.static ({ cls := "java/util/List", name := "of", desc := "([Ljava/lang/Object;)Ljava/util/List;" } : Jvm.MethodName)).before a0 Z = true := hw _ (List.mem_of_getElem? (i := 215) rfl)
theorem wd216 {Z : State} {a0 : Array Value} (hw : ∀ d ∈ tables_1, d.before a0 Z = true) : (Jvm.Cond.code ({ cls := "java/util/List", name := "of", desc := "([Ljava/lang/Object;)Ljava/util/List;" } : Jvm.MethodName) jdk_40_method_47_code (2 : Nat) (Option.some (Jvm.ClassFile.FieldType.object "java/util/List"))).before a0 Z = true := hw _ (List.mem_of_getElem? (i := 216) rfl)
theorem wd217 {Z : State} {a0 : Array Value} (hw : ∀ d ∈ tables_1, d.before a0 Z = true) : (Jvm.Cond.classLink "java/util/List" (96 : Nat) "java/util/ImmutableCollections$List12").before a0 Z = true := hw _ (List.mem_of_getElem? (i := 217) rfl)
theorem wd218 {Z : State} {a0 : Array Value} (hw : ∀ d ∈ tables_1, d.before a0 Z = true) : (Jvm.Cond.instantiable "java/util/ImmutableCollections$List12" (2 : Nat)).before a0 Z = true := hw _ (List.mem_of_getElem? (i := 218) rfl)
theorem wd219 {Z : State} {a0 : Array Value} (hw : ∀ d ∈ tables_1, d.before a0 Z = true) : (Jvm.Cond.initialized "java/util/ImmutableCollections$List12").before a0 Z = true := hw _ (List.mem_of_getElem? (i := 219) rfl)
theorem wd220 {Z : State} {a0 : Array Value} (hw : ∀ d ∈ tables_1, d.before a0 Z = true) : (Jvm.Cond.methodLink "java/util/List" (100 : Nat) ({ cls := "java/util/ImmutableCollections$List12", name := "<init>", desc := "(Ljava/lang/Object;Ljava/lang/Object;)V" } : Jvm.MethodName)).before a0 Z = true := hw _ (List.mem_of_getElem? (i := 220) rfl)
theorem wd221 {Z : State} {a0 : Array Value} (hw : ∀ d ∈ tables_1, d.before a0 Z = true) : (Jvm.Cond.instanceMethod ({ cls := "java/util/ImmutableCollections$List12", name := "<init>", desc := "(Ljava/lang/Object;Ljava/lang/Object;)V" } : Jvm.MethodName)).before a0 Z = true := hw _ (List.mem_of_getElem? (i := 221) rfl)
theorem wd223 {Z : State} {a0 : Array Value} (hw : ∀ d ∈ tables_1, d.before a0 Z = true) : (Jvm.Cond.code ({ cls := "java/util/ImmutableCollections$List12", name := "<init>", desc := "(Ljava/lang/Object;Ljava/lang/Object;)V" } : Jvm.MethodName) jdk_44_method_2_code (3 : Nat) (Option.none : Option Jvm.ClassFile.FieldType)).before a0 Z = true := hw _ (List.mem_of_getElem? (i := 223) rfl)
theorem wd224 {Z : State} {a0 : Array Value} (hw : ∀ d ∈ tables_1, d.before a0 Z = true) : (Jvm.Cond.methodLink "java/util/ImmutableCollections$List12" (1 : Nat) ({ cls := "java/util/ImmutableCollections$AbstractImmutableList", name := "<init>", desc := "()V" } : Jvm.MethodName)).before a0 Z = true := hw _ (List.mem_of_getElem? (i := 224) rfl)
theorem wd225 {Z : State} {a0 : Array Value} (hw : ∀ d ∈ tables_1, d.before a0 Z = true) : (Jvm.Cond.instanceMethod ({ cls := "java/util/ImmutableCollections$AbstractImmutableList", name := "<init>", desc := "()V" } : Jvm.MethodName)).before a0 Z = true := hw _ (List.mem_of_getElem? (i := 225) rfl)
theorem wd228 {Z : State} {a0 : Array Value} (hw : ∀ d ∈ tables_1, d.before a0 Z = true) : (Jvm.Cond.initialized "java/util/ImmutableCollections$AbstractImmutableList").before a0 Z = true := hw _ (List.mem_of_getElem? (i := 228) rfl)
theorem wd229 {Z : State} {a0 : Array Value} (hw : ∀ d ∈ tables_1, d.before a0 Z = true) : (Jvm.Cond.code ({ cls := "java/util/ImmutableCollections$AbstractImmutableList", name := "<init>", desc := "()V" } : Jvm.MethodName) jdk_46_method_1_code (1 : Nat) (Option.none : Option Jvm.ClassFile.FieldType)).before a0 Z = true := hw _ (List.mem_of_getElem? (i := 229) rfl)
theorem wd230 {Z : State} {a0 : Array Value} (hw : ∀ d ∈ tables_1, d.before a0 Z = true) : (Jvm.Cond.methodLink "java/util/ImmutableCollections$AbstractImmutableList" (1 : Nat) ({ cls := "java/util/ImmutableCollections$AbstractImmutableCollection", name := "<init>", desc := "()V" } : Jvm.MethodName)).before a0 Z = true := hw _ (List.mem_of_getElem? (i := 230) rfl)
theorem wd231 {Z : State} {a0 : Array Value} (hw : ∀ d ∈ tables_1, d.before a0 Z = true) : (Jvm.Cond.instanceMethod ({ cls := "java/util/ImmutableCollections$AbstractImmutableCollection", name := "<init>", desc := "()V" } : Jvm.MethodName)).before a0 Z = true := hw _ (List.mem_of_getElem? (i := 231) rfl)
theorem wd234 {Z : State} {a0 : Array Value} (hw : ∀ d ∈ tables_1, d.before a0 Z = true) : (Jvm.Cond.initialized "java/util/ImmutableCollections$AbstractImmutableCollection").before a0 Z = true := hw _ (List.mem_of_getElem? (i := 234) rfl)
theorem wd235 {Z : State} {a0 : Array Value} (hw : ∀ d ∈ tables_1, d.before a0 Z = true) : (Jvm.Cond.code ({ cls := "java/util/ImmutableCollections$AbstractImmutableCollection", name := "<init>", desc := "()V" } : Jvm.MethodName) jdk_47_method_1_code (1 : Nat) (Option.none : Option Jvm.ClassFile.FieldType)).before a0 Z = true := hw _ (List.mem_of_getElem? (i := 235) rfl)
theorem wd236 {Z : State} {a0 : Array Value} (hw : ∀ d ∈ tables_1, d.before a0 Z = true) : (Jvm.Cond.methodLink "java/util/ImmutableCollections$AbstractImmutableCollection" (1 : Nat) ({ cls := "java/util/AbstractCollection", name := "<init>", desc := "()V" } : Jvm.MethodName)).before a0 Z = true := hw _ (List.mem_of_getElem? (i := 236) rfl)
theorem wd238 {Z : State} {a0 : Array Value} (hw : ∀ d ∈ tables_1, d.before a0 Z = true) : (Jvm.Cond.methodLink "java/util/ImmutableCollections$List12" (7 : Nat) ({ cls := "java/util/Objects", name := "requireNonNull", desc := "(Ljava/lang/Object;)Ljava/lang/Object;" } : Jvm.MethodName)).before a0 Z = true := hw _ (List.mem_of_getElem? (i := 238) rfl)
theorem wd239 {Z : State} {a0 : Array Value} (hw : ∀ d ∈ tables_1, d.before a0 Z = true) : (Jvm.Cond.static ({ cls := "java/util/Objects", name := "requireNonNull", desc := "(Ljava/lang/Object;)Ljava/lang/Object;" } : Jvm.MethodName)).before a0 Z = true := hw _ (List.mem_of_getElem? (i := 239) rfl)
theorem wd240 {Z : State} {a0 : Array Value} (hw : ∀ d ∈ tables_1, d.before a0 Z = true) : (Jvm.Cond.code ({ cls := "java/util/Objects", name := "requireNonNull", desc := "(Ljava/lang/Object;)Ljava/lang/Object;" } : Jvm.MethodName) jdk_31_method_10_code (1 : Nat) (Option.some (Jvm.ClassFile.FieldType.object "java/lang/Object"))).before a0 Z = true := hw _ (List.mem_of_getElem? (i := 240) rfl)
theorem wd241 {Z : State} {a0 : Array Value} (hw : ∀ d ∈ tables_1, d.before a0 Z = true) : (Jvm.Cond.fieldLink "java/util/ImmutableCollections$List12" (13 : Nat) "java/util/ImmutableCollections$List12" "e0" "Ljava/lang/Object;").before a0 Z = true := hw _ (List.mem_of_getElem? (i := 241) rfl)
theorem wd242 {Z : State} {a0 : Array Value} (hw : ∀ d ∈ tables_1, d.before a0 Z = true) : (Jvm.Cond.laysFinal "java/util/ImmutableCollections$List12" "java/util/ImmutableCollections$List12" "e0" "Ljava/lang/Object;").before a0 Z = true := hw _ (List.mem_of_getElem? (i := 242) rfl)
theorem wd243 {Z : State} {a0 : Array Value} (hw : ∀ d ∈ tables_1, d.before a0 Z = true) : (Jvm.Cond.fieldLink "java/util/ImmutableCollections$List12" (24 : Nat) "java/util/ImmutableCollections$List12" "e1" "Ljava/lang/Object;").before a0 Z = true := hw _ (List.mem_of_getElem? (i := 243) rfl)
theorem wd244 {Z : State} {a0 : Array Value} (hw : ∀ d ∈ tables_1, d.before a0 Z = true) : (Jvm.Cond.laysFinal "java/util/ImmutableCollections$List12" "java/util/ImmutableCollections$List12" "e1" "Ljava/lang/Object;").before a0 Z = true := hw _ (List.mem_of_getElem? (i := 244) rfl)
theorem wd245 {Z : State} {a0 : Array Value} (hw : ∀ d ∈ tables_1, d.before a0 Z = true) : (Jvm.Cond.methodLink "java/util/List" (98 : Nat) ({ cls := "java/util/ImmutableCollections$List12", name := "<init>", desc := "(Ljava/lang/Object;)V" } : Jvm.MethodName)).before a0 Z = true := hw _ (List.mem_of_getElem? (i := 245) rfl)
theorem wd246 {Z : State} {a0 : Array Value} (hw : ∀ d ∈ tables_1, d.before a0 Z = true) : (Jvm.Cond.instanceMethod ({ cls := "java/util/ImmutableCollections$List12", name := "<init>", desc := "(Ljava/lang/Object;)V" } : Jvm.MethodName)).before a0 Z = true := hw _ (List.mem_of_getElem? (i := 246) rfl)
theorem wd247 {Z : State} {a0 : Array Value} (hw : ∀ d ∈ tables_1, d.before a0 Z = true) : (Jvm.Cond.code ({ cls := "java/util/ImmutableCollections$List12", name := "<init>", desc := "(Ljava/lang/Object;)V" } : Jvm.MethodName) jdk_44_method_1_code (2 : Nat) (Option.none : Option Jvm.ClassFile.FieldType)).before a0 Z = true := hw _ (List.mem_of_getElem? (i := 247) rfl)
theorem wd248 {Z : State} {a0 : Array Value} (hw : ∀ d ∈ tables_1, d.before a0 Z = true) : (Jvm.Cond.fieldLinkNest "java/util/ImmutableCollections$List12" (19 : Nat) "java/util/ImmutableCollections" "EMPTY" "Ljava/lang/Object;" "java/util/ImmutableCollections").before a0 Z = true := hw _ (List.mem_of_getElem? (i := 248) rfl)
theorem d1_0 : decode jdk_38_method_2_code 0 = .ok (.aload_n 0, 1) := by decide +kernel
theorem d1_1 : decode jdk_38_method_2_code 1 = .ok (.invokespecial 1, 3) := by decide +kernel
theorem d1_4 : decode jdk_38_method_2_code 4 = .ok (.aload_n 0, 1) := by decide +kernel
theorem d1_5 : decode jdk_38_method_2_code 5 = .ok (.getstatic 39, 3) := by decide +kernel
theorem d1_8 : decode jdk_38_method_2_code 8 = .ok (.putfield 9, 3) := by decide +kernel
theorem d1_11 : decode jdk_38_method_2_code 11 = .ok (.return_, 1) := by decide +kernel
theorem d2_0 : decode jdk_39_method_1_code 0 = .ok (.aload_n 0, 1) := by decide +kernel
theorem d2_1 : decode jdk_39_method_1_code 1 = .ok (.invokespecial 1, 3) := by decide +kernel
theorem d2_4 : decode jdk_39_method_1_code 4 = .ok (.aload_n 0, 1) := by decide +kernel
theorem d2_5 : decode jdk_39_method_1_code 5 = .ok (.iconst 0, 1) := by decide +kernel
theorem d2_6 : decode jdk_39_method_1_code 6 = .ok (.putfield 7, 3) := by decide +kernel
theorem d2_9 : decode jdk_39_method_1_code 9 = .ok (.return_, 1) := by decide +kernel
theorem d3_0 : decode jdk_22_method_1_code 0 = .ok (.aload_n 0, 1) := by decide +kernel
theorem d3_1 : decode jdk_22_method_1_code 1 = .ok (.invokespecial 1, 3) := by decide +kernel
theorem d3_4 : decode jdk_22_method_1_code 4 = .ok (.return_, 1) := by decide +kernel
theorem d5_0 : decode method_3_code 0 = .ok (.iload_n 1, 1) := by decide +kernel
theorem d5_1 : decode method_3_code 1 = .ok (.iconst 3, 1) := by decide +kernel
theorem d5_2 : decode method_3_code 2 = .ok (.iand, 1) := by decide +kernel
theorem d5_3 : decode method_3_code 3 = .ok (.istore_n 2, 1) := by decide +kernel
theorem d5_4 : decode method_3_code 4 = .ok (.iload_n 0, 1) := by decide +kernel
theorem d5_5 : decode method_3_code 5 = .ok (.sipush 255, 3) := by decide +kernel
theorem d5_8 : decode method_3_code 8 = .ok (.iand, 1) := by decide +kernel
theorem d5_9 : decode method_3_code 9 = .ok (.i2c, 1) := by decide +kernel
theorem d5_10 : decode method_3_code 10 = .ok (.istore_n 3, 1) := by decide +kernel
theorem d5_11 : decode method_3_code 11 = .ok (.iload_n 0, 1) := by decide +kernel
theorem d5_12 : decode method_3_code 12 = .ok (.bipush 8, 2) := by decide +kernel
theorem d5_14 : decode method_3_code 14 = .ok (.iushr, 1) := by decide +kernel
theorem d5_15 : decode method_3_code 15 = .ok (.sipush 255, 3) := by decide +kernel
theorem d5_18 : decode method_3_code 18 = .ok (.iand, 1) := by decide +kernel
theorem d5_19 : decode method_3_code 19 = .ok (.i2c, 1) := by decide +kernel
theorem d5_20 : decode method_3_code 20 = .ok (.istore 4, 2) := by decide +kernel
theorem d5_22 : decode method_3_code 22 = .ok (.iload_n 0, 1) := by decide +kernel
theorem d5_23 : decode method_3_code 23 = .ok (.bipush 16, 2) := by decide +kernel
theorem d5_25 : decode method_3_code 25 = .ok (.iushr, 1) := by decide +kernel
theorem d5_26 : decode method_3_code 26 = .ok (.sipush 255, 3) := by decide +kernel
theorem d5_29 : decode method_3_code 29 = .ok (.iand, 1) := by decide +kernel
theorem d5_30 : decode method_3_code 30 = .ok (.i2c, 1) := by decide +kernel
theorem d5_31 : decode method_3_code 31 = .ok (.istore 5, 2) := by decide +kernel
theorem d5_33 : decode method_3_code 33 = .ok (.iload_n 2, 1) := by decide +kernel
theorem d5_34 : decode method_3_code 34 = .ok (.ifCond .ne 14, 3) := by decide +kernel
theorem d5_37 : decode method_3_code 37 = .ok (.new 60, 3) := by decide +kernel
theorem d5_40 : decode method_3_code 40 = .ok (.dup, 1) := by decide +kernel
theorem d5_41 : decode method_3_code 41 = .ok (.iconst 0, 1) := by decide +kernel
theorem d5_42 : decode method_3_code 42 = .ok (.newarray .char, 2) := by decide +kernel
theorem d5_44 : decode method_3_code 44 = .ok (.invokespecial 62, 3) := by decide +kernel
theorem d5_47 : decode method_3_code 47 = .ok (.areturn, 1) := by decide +kernel
theorem d5_48 : decode method_3_code 48 = .ok (.iload_n 2, 1) := by decide +kernel
theorem d5_49 : decode method_3_code 49 = .ok (.iconst 1, 1) := by decide +kernel
theorem d5_50 : decode method_3_code 50 = .ok (.if_icmp .ne 23, 3) := by decide +kernel
theorem d5_53 : decode method_3_code 53 = .ok (.iconst 1, 1) := by decide +kernel
theorem d5_54 : decode method_3_code 54 = .ok (.newarray .char, 2) := by decide +kernel
theorem d5_56 : decode method_3_code 56 = .ok (.astore 6, 2) := by decide +kernel
theorem d5_58 : decode method_3_code 58 = .ok (.aload 6, 2) := by decide +kernel
theorem d5_60 : decode method_3_code 60 = .ok (.iconst 0, 1) := by decide +kernel
theorem d5_61 : decode method_3_code 61 = .ok (.iload_n 3, 1) := by decide +kernel
theorem d5_62 : decode method_3_code 62 = .ok (.castore, 1) := by decide +kernel
theorem d5_63 : decode method_3_code 63 = .ok (.new 60, 3) := by decide +kernel
theorem d5_66 : decode method_3_code 66 = .ok (.dup, 1) := by decide +kernel
theorem d5_67 : decode method_3_code 67 = .ok (.aload 6, 2) := by decide +kernel
theorem d5_69 : decode method_3_code 69 = .ok (.invokespecial 62, 3) := by decide +kernel
theorem d5_72 : decode method_3_code 72 = .ok (.areturn, 1) := by decide +kernel
theorem d5_73 : decode method_3_code 73 = .ok (.iload_n 2, 1) := by decide +kernel
theorem d5_74 : decode method_3_code 74 = .ok (.iconst 2, 1) := by decide +kernel
theorem d5_75 : decode method_3_code 75 = .ok (.if_icmp .ne 29, 3) := by decide +kernel
theorem d5_78 : decode method_3_code 78 = .ok (.iconst 2, 1) := by decide +kernel
theorem d5_79 : decode method_3_code 79 = .ok (.newarray .char, 2) := by decide +kernel
theorem d5_81 : decode method_3_code 81 = .ok (.astore 6, 2) := by decide +kernel
theorem d5_83 : decode method_3_code 83 = .ok (.aload 6, 2) := by decide +kernel
theorem d5_85 : decode method_3_code 85 = .ok (.iconst 0, 1) := by decide +kernel
theorem d5_86 : decode method_3_code 86 = .ok (.iload_n 3, 1) := by decide +kernel
theorem d5_87 : decode method_3_code 87 = .ok (.castore, 1) := by decide +kernel
theorem d5_88 : decode method_3_code 88 = .ok (.aload 6, 2) := by decide +kernel
theorem d5_90 : decode method_3_code 90 = .ok (.iconst 1, 1) := by decide +kernel
theorem d5_91 : decode method_3_code 91 = .ok (.iload 4, 2) := by decide +kernel
theorem d5_93 : decode method_3_code 93 = .ok (.castore, 1) := by decide +kernel
theorem d5_94 : decode method_3_code 94 = .ok (.new 60, 3) := by decide +kernel
theorem d5_97 : decode method_3_code 97 = .ok (.dup, 1) := by decide +kernel
theorem d5_98 : decode method_3_code 98 = .ok (.aload 6, 2) := by decide +kernel
theorem d5_100 : decode method_3_code 100 = .ok (.invokespecial 62, 3) := by decide +kernel
theorem d5_103 : decode method_3_code 103 = .ok (.areturn, 1) := by decide +kernel
theorem d5_104 : decode method_3_code 104 = .ok (.iconst 3, 1) := by decide +kernel
theorem d5_105 : decode method_3_code 105 = .ok (.newarray .char, 2) := by decide +kernel
theorem d5_107 : decode method_3_code 107 = .ok (.astore 6, 2) := by decide +kernel
theorem d5_109 : decode method_3_code 109 = .ok (.aload 6, 2) := by decide +kernel
theorem d5_111 : decode method_3_code 111 = .ok (.iconst 0, 1) := by decide +kernel
theorem d5_112 : decode method_3_code 112 = .ok (.iload_n 3, 1) := by decide +kernel
theorem d5_113 : decode method_3_code 113 = .ok (.castore, 1) := by decide +kernel
theorem d5_114 : decode method_3_code 114 = .ok (.aload 6, 2) := by decide +kernel
theorem d5_116 : decode method_3_code 116 = .ok (.iconst 1, 1) := by decide +kernel
theorem d5_117 : decode method_3_code 117 = .ok (.iload 4, 2) := by decide +kernel
theorem d5_119 : decode method_3_code 119 = .ok (.castore, 1) := by decide +kernel
theorem d5_120 : decode method_3_code 120 = .ok (.aload 6, 2) := by decide +kernel
theorem d5_122 : decode method_3_code 122 = .ok (.iconst 2, 1) := by decide +kernel
theorem d5_123 : decode method_3_code 123 = .ok (.iload 5, 2) := by decide +kernel
theorem d5_125 : decode method_3_code 125 = .ok (.castore, 1) := by decide +kernel
theorem d5_126 : decode method_3_code 126 = .ok (.new 60, 3) := by decide +kernel
theorem d5_129 : decode method_3_code 129 = .ok (.dup, 1) := by decide +kernel
theorem d5_130 : decode method_3_code 130 = .ok (.aload 6, 2) := by decide +kernel
theorem d5_132 : decode method_3_code 132 = .ok (.invokespecial 62, 3) := by decide +kernel
theorem d5_135 : decode method_3_code 135 = .ok (.areturn, 1) := by decide +kernel
theorem d6_0 : decode jdk_42_method_3_code 0 = .ok (.aload_n 0, 1) := by decide +kernel
theorem d6_1 : decode jdk_42_method_3_code 1 = .ok (.aload_n 1, 1) := by decide +kernel
theorem d6_2 : decode jdk_42_method_3_code 2 = .ok (.iconst 0, 1) := by decide +kernel
theorem d6_3 : decode jdk_42_method_3_code 3 = .ok (.aload_n 1, 1) := by decide +kernel
theorem d6_4 : decode jdk_42_method_3_code 4 = .ok (.arraylength, 1) := by decide +kernel
theorem d6_5 : decode jdk_42_method_3_code 5 = .ok (.aconst_null, 1) := by decide +kernel
theorem d6_6 : decode jdk_42_method_3_code 6 = .ok (.invokespecial 27, 3) := by decide +kernel
theorem d6_9 : decode jdk_42_method_3_code 9 = .ok (.return_, 1) := by decide +kernel
theorem d7_0 : decode jdk_42_method_149_code 0 = .ok (.aload_n 0, 1) := by decide +kernel
theorem d7_1 : decode jdk_42_method_149_code 1 = .ok (.invokespecial 1, 3) := by decide +kernel
theorem d7_4 : decode jdk_42_method_149_code 4 = .ok (.iload_n 3, 1) := by decide +kernel
theorem d7_5 : decode jdk_42_method_149_code 5 = .ok (.ifCond .ne 22, 3) := by decide +kernel
theorem d7_8 : decode jdk_42_method_149_code 8 = .ok (.aload_n 0, 1) := by decide +kernel
theorem d7_9 : decode jdk_42_method_149_code 9 = .ok (.ldc 7, 2) := by decide +kernel
theorem d7_11 : decode jdk_42_method_149_code 11 = .ok (.getfield 9, 3) := by decide +kernel
theorem d7_14 : decode jdk_42_method_149_code 14 = .ok (.putfield 9, 3) := by decide +kernel
theorem d7_17 : decode jdk_42_method_149_code 17 = .ok (.aload_n 0, 1) := by decide +kernel
theorem d7_18 : decode jdk_42_method_149_code 18 = .ok (.ldc 7, 2) := by decide +kernel
theorem d7_20 : decode jdk_42_method_149_code 20 = .ok (.getfield 15, 3) := by decide +kernel
theorem d7_23 : decode jdk_42_method_149_code 23 = .ok (.putfield 15, 3) := by decide +kernel
theorem d7_26 : decode jdk_42_method_149_code 26 = .ok (.return_, 1) := by decide +kernel
theorem d8_0 : decode prog_5_method_2_code 0 = .ok (.aload_n 0, 1) := by decide +kernel
theorem d8_1 : decode prog_5_method_2_code 1 = .ok (.invokespecial 1, 3) := by decide +kernel
theorem d8_4 : decode prog_5_method_2_code 4 = .ok (.aload_n 0, 1) := by decide +kernel
theorem d8_5 : decode prog_5_method_2_code 5 = .ok (.aload_n 1, 1) := by decide +kernel
theorem d8_6 : decode prog_5_method_2_code 6 = .ok (.invokestatic 23, 3) := by decide +kernel
theorem d8_9 : decode prog_5_method_2_code 9 = .ok (.putfield 13, 3) := by decide +kernel
theorem d8_12 : decode prog_5_method_2_code 12 = .ok (.aload_n 0, 1) := by decide +kernel
theorem d8_13 : decode prog_5_method_2_code 13 = .ok (.aload_n 2, 1) := by decide +kernel
theorem d8_14 : decode prog_5_method_2_code 14 = .ok (.ldc 27, 2) := by decide +kernel
theorem d8_16 : decode prog_5_method_2_code 16 = .ok (.invokestatic 28, 3) := by decide +kernel
theorem d8_19 : decode prog_5_method_2_code 19 = .ok (.checkcast 34, 3) := by decide +kernel
theorem d8_22 : decode prog_5_method_2_code 22 = .ok (.putfield 19, 3) := by decide +kernel
theorem d8_25 : decode prog_5_method_2_code 25 = .ok (.return_, 1) := by decide +kernel
theorem d9_0 : decode jdk_40_method_48_code 0 = .ok (.aload_n 0, 1) := by decide +kernel
theorem d9_1 : decode jdk_40_method_48_code 1 = .ok (.invokestatic 112, 3) := by decide +kernel
theorem d9_4 : decode jdk_40_method_48_code 4 = .ok (.areturn, 1) := by decide +kernel
theorem d10_0 : decode jdk_56_method_3_code 0 = .ok (.aload_n 0, 1) := by decide +kernel
theorem d10_1 : decode jdk_56_method_3_code 1 = .ok (.instanceof 10, 3) := by decide +kernel
theorem d10_4 : decode jdk_56_method_3_code 4 = .ok (.ifCond .ne 22, 3) := by decide +kernel
theorem d10_7 : decode jdk_56_method_3_code 7 = .ok (.aload_n 0, 1) := by decide +kernel
theorem d10_8 : decode jdk_56_method_3_code 8 = .ok (.instanceof 12, 3) := by decide +kernel
theorem d10_11 : decode jdk_56_method_3_code 11 = .ok (.ifCond .eq 20, 3) := by decide +kernel
theorem d10_31 : decode jdk_56_method_3_code 31 = .ok (.aload_n 0, 1) := by decide +kernel
theorem d10_32 : decode jdk_56_method_3_code 32 = .ok (.invokeinterface 20 1, 5) := by decide +kernel
theorem d10_37 : decode jdk_56_method_3_code 37 = .ok (.ifCond .eq 7, 3) := by decide +kernel
theorem d10_40 : decode jdk_56_method_3_code 40 = .ok (.invokestatic 26, 3) := by decide +kernel
theorem d10_43 : decode jdk_56_method_3_code 43 = .ok (.areturn, 1) := by decide +kernel
theorem d10_44 : decode jdk_56_method_3_code 44 = .ok (.aload_n 0, 1) := by decide +kernel
theorem d10_45 : decode jdk_56_method_3_code 45 = .ok (.invokeinterface 30 1, 5) := by decide +kernel
theorem d10_50 : decode jdk_56_method_3_code 50 = .ok (.invokestatic 34, 3) := by decide +kernel
theorem d10_53 : decode jdk_56_method_3_code 53 = .ok (.areturn, 1) := by decide +kernel
theorem d11_0 : decode jdk_38_method_9_code 0 = .ok (.aload_n 0, 1) := by decide +kernel
theorem d11_1 : decode jdk_38_method_9_code 1 = .ok (.getfield 48, 3) := by decide +kernel
theorem d11_4 : decode jdk_38_method_9_code 4 = .ok (.ifCond .ne 7, 3) := by decide +kernel
theorem d11_7 : decode jdk_38_method_9_code 7 = .ok (.iconst 1, 1) := by decide +kernel
theorem d11_8 : decode jdk_38_method_9_code 8 = .ok (.goto 4, 3) := by decide +kernel
theorem d11_11 : decode jdk_38_method_9_code 11 = .ok (.iconst 0, 1) := by decide +kernel
theorem d11_12 : decode jdk_38_method_9_code 12 = .ok (.ireturn, 1) := by decide +kernel
theorem d12_0 : decode jdk_40_method_36_code 0 = .ok (.getstatic 90, 3) := by decide +kernel
theorem d12_3 : decode jdk_40_method_36_code 3 = .ok (.areturn, 1) := by decide +kernel
theorem d13_0 : decode jdk_31_method_11_code 0 = .ok (.aload_n 0, 1) := by decide +kernel
theorem d13_1 : decode jdk_31_method_11_code 1 = .ok (.ifnonnull 12, 3) := by decide +kernel
theorem d13_13 : decode jdk_31_method_11_code 13 = .ok (.aload_n 0, 1) := by decide +kernel
theorem d13_14 : decode jdk_31_method_11_code 14 = .ok (.areturn, 1) := by decide +kernel
theorem d14_0 : decode prog_5_method_4_code 0 = .ok (.aload_n 0, 1) := by decide +kernel
theorem d14_1 : decode prog_5_method_4_code 1 = .ok (.getfield 19, 3) := by decide +kernel
theorem d14_4 : decode prog_5_method_4_code 4 = .ok (.ifnonnull 7, 3) := by decide +kernel
theorem d14_7 : decode prog_5_method_4_code 7 = .ok (.iconst 1, 1) := by decide +kernel
theorem d14_8 : decode prog_5_method_4_code 8 = .ok (.goto 4, 3) := by decide +kernel
theorem d14_11 : decode prog_5_method_4_code 11 = .ok (.iconst 0, 1) := by decide +kernel
theorem d14_12 : decode prog_5_method_4_code 12 = .ok (.ireturn, 1) := by decide +kernel
theorem d15_0 : decode prog_5_method_6_code 0 = .ok (.aload_n 0, 1) := by decide +kernel
theorem d15_1 : decode prog_5_method_6_code 1 = .ok (.getfield 19, 3) := by decide +kernel
theorem d15_4 : decode prog_5_method_6_code 4 = .ok (.areturn, 1) := by decide +kernel
theorem d16_0 : decode prog_5_method_3_code 0 = .ok (.getstatic 36, 3) := by decide +kernel
theorem d16_3 : decode prog_5_method_3_code 3 = .ok (.areturn, 1) := by decide +kernel
theorem d17_0 : decode prog_5_method_5_code 0 = .ok (.aload_n 0, 1) := by decide +kernel
theorem d17_1 : decode prog_5_method_5_code 1 = .ok (.getfield 13, 3) := by decide +kernel
theorem d17_4 : decode prog_5_method_5_code 4 = .ok (.areturn, 1) := by decide +kernel
theorem d18_0 : decode jdk_45_method_2_code 0 = .ok (.aload_n 0, 1) := by decide +kernel
theorem d18_1 : decode jdk_45_method_2_code 1 = .ok (.getfield 7, 3) := by decide +kernel
theorem d18_4 : decode jdk_45_method_2_code 4 = .ok (.arraylength, 1) := by decide +kernel
theorem d18_5 : decode jdk_45_method_2_code 5 = .ok (.ifCond .ne 7, 3) := by decide +kernel
theorem d18_8 : decode jdk_45_method_2_code 8 = .ok (.iconst 1, 1) := by decide +kernel
theorem d18_9 : decode jdk_45_method_2_code 9 = .ok (.goto 4, 3) := by decide +kernel
theorem d18_13 : decode jdk_45_method_2_code 13 = .ok (.ireturn, 1) := by decide +kernel
theorem d22_0 : decode prog_16_method_1_code 0 = .ok (.aload_n 0, 1) := by decide +kernel
theorem d22_1 : decode prog_16_method_1_code 1 = .ok (.invokespecial 1, 3) := by decide +kernel
theorem d22_4 : decode prog_16_method_1_code 4 = .ok (.aload_n 0, 1) := by decide +kernel
theorem d22_5 : decode prog_16_method_1_code 5 = .ok (.aload_n 1, 1) := by decide +kernel
theorem d22_6 : decode prog_16_method_1_code 6 = .ok (.putfield 7, 3) := by decide +kernel
theorem d22_9 : decode prog_16_method_1_code 9 = .ok (.aload_n 0, 1) := by decide +kernel
theorem d22_10 : decode prog_16_method_1_code 10 = .ok (.aload_n 2, 1) := by decide +kernel
theorem d22_11 : decode prog_16_method_1_code 11 = .ok (.putfield 13, 3) := by decide +kernel
theorem d22_14 : decode prog_16_method_1_code 14 = .ok (.return_, 1) := by decide +kernel
theorem d23_0 : decode jdk_38_method_25_code 0 = .ok (.aload_n 0, 1) := by decide +kernel
theorem d23_1 : decode jdk_38_method_25_code 1 = .ok (.dup, 1) := by decide +kernel
theorem d23_2 : decode jdk_38_method_25_code 2 = .ok (.getfield 63, 3) := by decide +kernel
theorem d23_5 : decode jdk_38_method_25_code 5 = .ok (.iconst 1, 1) := by decide +kernel
theorem d23_6 : decode jdk_38_method_25_code 6 = .ok (.iadd, 1) := by decide +kernel
theorem d23_7 : decode jdk_38_method_25_code 7 = .ok (.putfield 63, 3) := by decide +kernel
theorem d23_10 : decode jdk_38_method_25_code 10 = .ok (.aload_n 0, 1) := by decide +kernel
theorem d23_11 : decode jdk_38_method_25_code 11 = .ok (.aload_n 1, 1) := by decide +kernel
theorem d23_12 : decode jdk_38_method_25_code 12 = .ok (.aload_n 0, 1) := by decide +kernel
theorem d23_13 : decode jdk_38_method_25_code 13 = .ok (.getfield 9, 3) := by decide +kernel
theorem d23_16 : decode jdk_38_method_25_code 16 = .ok (.aload_n 0, 1) := by decide +kernel
theorem d23_17 : decode jdk_38_method_25_code 17 = .ok (.getfield 48, 3) := by decide +kernel
theorem d23_20 : decode jdk_38_method_25_code 20 = .ok (.invokevirtual 131, 3) := by decide +kernel
theorem d23_23 : decode jdk_38_method_25_code 23 = .ok (.iconst 1, 1) := by decide +kernel
theorem d23_24 : decode jdk_38_method_25_code 24 = .ok (.ireturn, 1) := by decide +kernel
theorem d24_0 : decode jdk_38_method_24_code 0 = .ok (.iload_n 3, 1) := by decide +kernel
theorem d24_1 : decode jdk_38_method_24_code 1 = .ok (.aload_n 2, 1) := by decide +kernel
theorem d24_2 : decode jdk_38_method_24_code 2 = .ok (.arraylength, 1) := by decide +kernel
theorem d24_3 : decode jdk_38_method_24_code 3 = .ok (.if_icmp .ne 8, 3) := by decide +kernel
theorem d24_6 : decode jdk_38_method_24_code 6 = .ok (.aload_n 0, 1) := by decide +kernel
theorem d24_7 : decode jdk_38_method_24_code 7 = .ok (.invokevirtual 129, 3) := by decide +kernel
theorem d24_10 : decode jdk_38_method_24_code 10 = .ok (.astore_n 2, 1) := by decide +kernel
theorem d24_11 : decode jdk_38_method_24_code 11 = .ok (.aload_n 2, 1) := by decide +kernel
theorem d24_12 : decode jdk_38_method_24_code 12 = .ok (.iload_n 3, 1) := by decide +kernel
theorem d24_13 : decode jdk_38_method_24_code 13 = .ok (.aload_n 1, 1) := by decide +kernel
theorem d24_14 : decode jdk_38_method_24_code 14 = .ok (.aastore, 1) := by decide +kernel
theorem d24_15 : decode jdk_38_method_24_code 15 = .ok (.aload_n 0, 1) := by decide +kernel
theorem d24_16 : decode jdk_38_method_24_code 16 = .ok (.iload_n 3, 1) := by decide +kernel
theorem d24_17 : decode jdk_38_method_24_code 17 = .ok (.iconst 1, 1) := by decide +kernel
theorem d24_18 : decode jdk_38_method_24_code 18 = .ok (.iadd, 1) := by decide +kernel
theorem d24_19 : decode jdk_38_method_24_code 19 = .ok (.putfield 48, 3) := by decide +kernel
theorem d24_22 : decode jdk_38_method_24_code 22 = .ok (.return_, 1) := by decide +kernel
theorem d25_0 : decode jdk_38_method_7_code 0 = .ok (.aload_n 0, 1) := by decide +kernel
theorem d25_1 : decode jdk_38_method_7_code 1 = .ok (.aload_n 0, 1) := by decide +kernel
theorem d25_2 : decode jdk_38_method_7_code 2 = .ok (.getfield 48, 3) := by decide +kernel
theorem d25_5 : decode jdk_38_method_7_code 5 = .ok (.iconst 1, 1) := by decide +kernel
theorem d25_6 : decode jdk_38_method_7_code 6 = .ok (.iadd, 1) := by decide +kernel
theorem d25_7 : decode jdk_38_method_7_code 7 = .ok (.invokevirtual 69, 3) := by decide +kernel
theorem d25_10 : decode jdk_38_method_7_code 10 = .ok (.areturn, 1) := by decide +kernel
theorem d26_0 : decode jdk_38_method_6_code 0 = .ok (.aload_n 0, 1) := by decide +kernel
theorem d26_1 : decode jdk_38_method_6_code 1 = .ok (.getfield 9, 3) := by decide +kernel
theorem d26_4 : decode jdk_38_method_6_code 4 = .ok (.arraylength, 1) := by decide +kernel
theorem d26_5 : decode jdk_38_method_6_code 5 = .ok (.istore_n 2, 1) := by decide +kernel
theorem d26_6 : decode jdk_38_method_6_code 6 = .ok (.iload_n 2, 1) := by decide +kernel
theorem d26_7 : decode jdk_38_method_6_code 7 = .ok (.ifCond .gt 13, 3) := by decide +kernel
theorem d26_10 : decode jdk_38_method_6_code 10 = .ok (.aload_n 0, 1) := by decide +kernel
theorem d26_11 : decode jdk_38_method_6_code 11 = .ok (.getfield 9, 3) := by decide +kernel
theorem d26_14 : decode jdk_38_method_6_code 14 = .ok (.getstatic 39, 3) := by decide +kernel
theorem d26_17 : decode jdk_38_method_6_code 17 = .ok (.if_acmp .eq 28, 3) := by decide +kernel
theorem d26_45 : decode jdk_38_method_6_code 45 = .ok (.aload_n 0, 1) := by decide +kernel
theorem d26_46 : decode jdk_38_method_6_code 46 = .ok (.bipush 10, 2) := by decide +kernel
theorem d26_48 : decode jdk_38_method_6_code 48 = .ok (.iload_n 1, 1) := by decide +kernel
theorem d26_49 : decode jdk_38_method_6_code 49 = .ok (.invokestatic 79, 3) := by decide +kernel
theorem d26_52 : decode jdk_38_method_6_code 52 = .ok (.anewarray 7, 3) := by decide +kernel
theorem d26_55 : decode jdk_38_method_6_code 55 = .ok (.dup_x1, 1) := by decide +kernel
theorem d26_56 : decode jdk_38_method_6_code 56 = .ok (.putfield 9, 3) := by decide +kernel
theorem d26_59 : decode jdk_38_method_6_code 59 = .ok (.areturn, 1) := by decide +kernel
theorem d27_0 : decode jdk_29_method_65_code 0 = .ok (.iload_n 0, 1) := by decide +kernel
theorem d27_1 : decode jdk_29_method_65_code 1 = .ok (.iload_n 1, 1) := by decide +kernel
theorem d27_2 : decode jdk_29_method_65_code 2 = .ok (.if_icmp .lt 7, 3) := by decide +kernel
theorem d27_5 : decode jdk_29_method_65_code 5 = .ok (.iload_n 0, 1) := by decide +kernel
theorem d27_6 : decode jdk_29_method_65_code 6 = .ok (.goto 4, 3) := by decide +kernel
theorem d27_10 : decode jdk_29_method_65_code 10 = .ok (.ireturn, 1) := by decide +kernel
theorem d28_0 : decode jdk_38_method_16_code 0 = .ok (.aload_n 0, 1) := by decide +kernel
theorem d28_1 : decode jdk_38_method_16_code 1 = .ok (.getfield 9, 3) := by decide +kernel
theorem d28_4 : decode jdk_38_method_16_code 4 = .ok (.aload_n 0, 1) := by decide +kernel
theorem d28_5 : decode jdk_38_method_16_code 5 = .ok (.getfield 48, 3) := by decide +kernel
theorem d28_8 : decode jdk_38_method_16_code 8 = .ok (.invokestatic 66, 3) := by decide +kernel
theorem d28_11 : decode jdk_38_method_16_code 11 = .ok (.areturn, 1) := by decide +kernel
theorem d29_0 : decode jdk_65_method_119_code 0 = .ok (.aload_n 0, 1) := by decide +kernel
theorem d29_1 : decode jdk_65_method_119_code 1 = .ok (.iload_n 1, 1) := by decide +kernel
theorem d29_2 : decode jdk_65_method_119_code 2 = .ok (.aload_n 0, 1) := by decide +kernel
theorem d29_3 : decode jdk_65_method_119_code 3 = .ok (.invokevirtual 86, 3) := by decide +kernel
theorem d29_6 : decode jdk_65_method_119_code 6 = .ok (.invokestatic 300, 3) := by decide +kernel
theorem d29_9 : decode jdk_65_method_119_code 9 = .ok (.areturn, 1) := by decide +kernel
theorem d30_0 : decode jdk_65_method_120_code 0 = .ok (.aload_n 2, 1) := by decide +kernel
theorem d30_1 : decode jdk_65_method_120_code 1 = .ok (.ldc 110, 2) := by decide +kernel
theorem d30_3 : decode jdk_65_method_120_code 3 = .ok (.if_acmp .ne 10, 3) := by decide +kernel
theorem d30_6 : decode jdk_65_method_120_code 6 = .ok (.iload_n 1, 1) := by decide +kernel
theorem d30_7 : decode jdk_65_method_120_code 7 = .ok (.anewarray 2, 3) := by decide +kernel
theorem d30_10 : decode jdk_65_method_120_code 10 = .ok (.goto 14, 3) := by decide +kernel
theorem d30_24 : decode jdk_65_method_120_code 24 = .ok (.astore_n 3, 1) := by decide +kernel
theorem d30_25 : decode jdk_65_method_120_code 25 = .ok (.aload_n 0, 1) := by decide +kernel
theorem d30_26 : decode jdk_65_method_120_code 26 = .ok (.iconst 0, 1) := by decide +kernel
theorem d30_27 : decode jdk_65_method_120_code 27 = .ok (.aload_n 3, 1) := by decide +kernel
theorem d30_28 : decode jdk_65_method_120_code 28 = .ok (.iconst 0, 1) := by decide +kernel
theorem d30_29 : decode jdk_65_method_120_code 29 = .ok (.aload_n 0, 1) := by decide +kernel
theorem d30_30 : decode jdk_65_method_120_code 30 = .ok (.arraylength, 1) := by decide +kernel
theorem d30_31 : decode jdk_65_method_120_code 31 = .ok (.iload_n 1, 1) := by decide +kernel
theorem d30_32 : decode jdk_65_method_120_code 32 = .ok (.invokestatic 304, 3) := by decide +kernel
theorem d30_35 : decode jdk_65_method_120_code 35 = .ok (.invokestatic 150, 3) := by decide +kernel
theorem d30_38 : decode jdk_65_method_120_code 38 = .ok (.aload_n 3, 1) := by decide +kernel
theorem d30_39 : decode jdk_65_method_120_code 39 = .ok (.areturn, 1) := by decide +kernel
theorem d31_0 : decode jdk_29_method_69_code 0 = .ok (.iload_n 0, 1) := by decide +kernel
theorem d31_1 : decode jdk_29_method_69_code 1 = .ok (.iload_n 1, 1) := by decide +kernel
theorem d31_2 : decode jdk_29_method_69_code 2 = .ok (.if_icmp .gt 7, 3) := by decide +kernel
theorem d31_9 : decode jdk_29_method_69_code 9 = .ok (.iload_n 1, 1) := by decide +kernel
theorem d31_10 : decode jdk_29_method_69_code 10 = .ok (.ireturn, 1) := by decide +kernel
theorem d32_0 : decode jdk_40_method_47_code 0 = .ok (.aload_n 0, 1) := by decide +kernel
theorem d32_1 : decode jdk_40_method_47_code 1 = .ok (.arraylength, 1) := by decide +kernel
theorem d32_2 : decode jdk_40_method_47_code 2 = .ok (.tableswitch 57 0 2 #[26, 32, 43], 26) := by decide +kernel
theorem d32_34 : decode jdk_40_method_47_code 34 = .ok (.new 96, 3) := by decide +kernel
theorem d32_37 : decode jdk_40_method_47_code 37 = .ok (.dup, 1) := by decide +kernel
theorem d32_38 : decode jdk_40_method_47_code 38 = .ok (.aload_n 0, 1) := by decide +kernel
theorem d32_39 : decode jdk_40_method_47_code 39 = .ok (.iconst 0, 1) := by decide +kernel
theorem d32_40 : decode jdk_40_method_47_code 40 = .ok (.aaload, 1) := by decide +kernel
theorem d32_41 : decode jdk_40_method_47_code 41 = .ok (.invokespecial 98, 3) := by decide +kernel
theorem d32_44 : decode jdk_40_method_47_code 44 = .ok (.areturn, 1) := by decide +kernel
theorem d32_45 : decode jdk_40_method_47_code 45 = .ok (.new 96, 3) := by decide +kernel
theorem d32_48 : decode jdk_40_method_47_code 48 = .ok (.dup, 1) := by decide +kernel
theorem d32_49 : decode jdk_40_method_47_code 49 = .ok (.aload_n 0, 1) := by decide +kernel
theorem d32_50 : decode jdk_40_method_47_code 50 = .ok (.iconst 0, 1) := by decide +kernel
theorem d32_51 : decode jdk_40_method_47_code 51 = .ok (.aaload, 1) := by decide +kernel
theorem d32_52 : decode jdk_40_method_47_code 52 = .ok (.aload_n 0, 1) := by decide +kernel
theorem d32_53 : decode jdk_40_method_47_code 53 = .ok (.iconst 1, 1) := by decide +kernel
theorem d32_54 : decode jdk_40_method_47_code 54 = .ok (.aaload, 1) := by decide +kernel
theorem d32_55 : decode jdk_40_method_47_code 55 = .ok (.invokespecial 100, 3) := by decide +kernel
theorem d32_58 : decode jdk_40_method_47_code 58 = .ok (.areturn, 1) := by decide +kernel
theorem d33_0 : decode jdk_44_method_2_code 0 = .ok (.aload_n 0, 1) := by decide +kernel
theorem d33_1 : decode jdk_44_method_2_code 1 = .ok (.invokespecial 1, 3) := by decide +kernel
theorem d33_4 : decode jdk_44_method_2_code 4 = .ok (.aload_n 0, 1) := by decide +kernel
theorem d33_5 : decode jdk_44_method_2_code 5 = .ok (.aload_n 1, 1) := by decide +kernel
theorem d33_6 : decode jdk_44_method_2_code 6 = .ok (.invokestatic 7, 3) := by decide +kernel
theorem d33_9 : decode jdk_44_method_2_code 9 = .ok (.putfield 13, 3) := by decide +kernel
theorem d33_12 : decode jdk_44_method_2_code 12 = .ok (.aload_n 0, 1) := by decide +kernel
theorem d33_13 : decode jdk_44_method_2_code 13 = .ok (.aload_n 2, 1) := by decide +kernel
theorem d33_14 : decode jdk_44_method_2_code 14 = .ok (.invokestatic 7, 3) := by decide +kernel
theorem d33_17 : decode jdk_44_method_2_code 17 = .ok (.putfield 24, 3) := by decide +kernel
theorem d33_20 : decode jdk_44_method_2_code 20 = .ok (.return_, 1) := by decide +kernel
theorem d34_0 : decode jdk_46_method_1_code 0 = .ok (.aload_n 0, 1) := by decide +kernel
theorem d34_1 : decode jdk_46_method_1_code 1 = .ok (.invokespecial 1, 3) := by decide +kernel
theorem d34_4 : decode jdk_46_method_1_code 4 = .ok (.return_, 1) := by decide +kernel
theorem d35_0 : decode jdk_47_method_1_code 0 = .ok (.aload_n 0, 1) := by decide +kernel
theorem d35_1 : decode jdk_47_method_1_code 1 = .ok (.invokespecial 1, 3) := by decide +kernel
theorem d35_4 : decode jdk_47_method_1_code 4 = .ok (.return_, 1) := by decide +kernel
theorem d36_0 : decode jdk_31_method_10_code 0 = .ok (.aload_n 0, 1) := by decide +kernel
theorem d36_1 : decode jdk_31_method_10_code 1 = .ok (.ifnonnull 11, 3) := by decide +kernel
theorem d36_12 : decode jdk_31_method_10_code 12 = .ok (.aload_n 0, 1) := by decide +kernel
theorem d36_13 : decode jdk_31_method_10_code 13 = .ok (.areturn, 1) := by decide +kernel
theorem d37_0 : decode jdk_44_method_1_code 0 = .ok (.aload_n 0, 1) := by decide +kernel
theorem d37_1 : decode jdk_44_method_1_code 1 = .ok (.invokespecial 1, 3) := by decide +kernel
theorem d37_4 : decode jdk_44_method_1_code 4 = .ok (.aload_n 0, 1) := by decide +kernel
theorem d37_5 : decode jdk_44_method_1_code 5 = .ok (.aload_n 1, 1) := by decide +kernel
theorem d37_6 : decode jdk_44_method_1_code 6 = .ok (.invokestatic 7, 3) := by decide +kernel
theorem d37_9 : decode jdk_44_method_1_code 9 = .ok (.putfield 13, 3) := by decide +kernel
theorem d37_12 : decode jdk_44_method_1_code 12 = .ok (.aload_n 0, 1) := by decide +kernel
theorem d37_13 : decode jdk_44_method_1_code 13 = .ok (.getstatic 19, 3) := by decide +kernel
theorem d37_16 : decode jdk_44_method_1_code 16 = .ok (.putfield 24, 3) := by decide +kernel
theorem d37_19 : decode jdk_44_method_1_code 19 = .ok (.return_, 1) := by decide +kernel
theorem pd0 : parseMethodDescriptor "([CIILjava/lang/Void;)V" = some ⟨[(.array .char), .int, .int, (.object "java/lang/Void")], none⟩ := by decide +kernel
theorem pd1 : parseMethodDescriptor "([C)V" = some ⟨[(.array .char)], none⟩ := by decide +kernel
theorem pd2 : parseMethodDescriptor "()V" = some ⟨[], none⟩ := by decide +kernel
theorem pd3 : parseMethodDescriptor "(II)I" = some ⟨[.int, .int], some .int⟩ := by decide +kernel
theorem pd4 : parseMethodDescriptor "(I)[Ljava/lang/Object;" = some ⟨[.int], some (.array (.object "java/lang/Object"))⟩ := by decide +kernel
theorem pd5 : parseMethodDescriptor "()[Ljava/lang/Object;" = some ⟨[], some (.array (.object "java/lang/Object"))⟩ := by decide +kernel
theorem pd6 : parseMethodDescriptor "(Ljava/lang/Object;[Ljava/lang/Object;I)V" = some ⟨[(.object "java/lang/Object"), (.array (.object "java/lang/Object")), .int], none⟩ := by decide +kernel
theorem pd7 : parseMethodDescriptor "(Ljava/lang/Object;)Ljava/lang/Object;" = some ⟨[(.object "java/lang/Object")], some (.object "java/lang/Object")⟩ := by decide +kernel
theorem pd8 : parseMethodDescriptor "([Ljava/lang/Object;ILjava/lang/Class;)[Ljava/lang/Object;" = some ⟨[(.array (.object "java/lang/Object")), .int, (.object "java/lang/Class")], some (.array (.object "java/lang/Object"))⟩ := by decide +kernel
theorem pd9 : parseMethodDescriptor "([Ljava/lang/Object;I)[Ljava/lang/Object;" = some ⟨[(.array (.object "java/lang/Object")), .int], some (.array (.object "java/lang/Object"))⟩ := by decide +kernel
theorem pd10 : parseMethodDescriptor "(Ljava/lang/Object;)V" = some ⟨[(.object "java/lang/Object")], none⟩ := by decide +kernel
theorem pd11 : parseMethodDescriptor "(Ljava/lang/Object;Ljava/lang/Object;)V" = some ⟨[(.object "java/lang/Object"), (.object "java/lang/Object")], none⟩ := by decide +kernel
theorem pd12 : parseMethodDescriptor "()Z" = some ⟨[], some .boolean⟩ := by decide +kernel
theorem pd13 : parseMethodDescriptor "()Ljava/util/List;" = some ⟨[], some (.object "java/util/List")⟩ := by decide +kernel
theorem pd14 : parseMethodDescriptor "(Ljava/util/Collection;)Ljava/util/List;" = some ⟨[(.object "java/util/Collection")], some (.object "java/util/List")⟩ := by decide +kernel
theorem pd15 : parseMethodDescriptor "(Ljava/lang/Object;Ljava/lang/String;)Ljava/lang/Object;" = some ⟨[(.object "java/lang/Object"), (.object "java/lang/String")], some (.object "java/lang/Object")⟩ := by decide +kernel
theorem pd16 : parseMethodDescriptor "([Ljava/lang/Object;)Ljava/util/List;" = some ⟨[(.array (.object "java/lang/Object"))], some (.object "java/util/List")⟩ := by decide +kernel
theorem pd17 : parseMethodDescriptor "(II)Ljava/lang/String;" = some ⟨[.int, .int], some (.object "java/lang/String")⟩ := by decide +kernel
theorem pd18 : parseMethodDescriptor "(Ljava/util/List;Ljava/lang/String;)V" = some ⟨[(.object "java/util/List"), (.object "java/lang/String")], none⟩ := by decide +kernel
theorem pd19 : parseMethodDescriptor "()Ljava/lang/String;" = some ⟨[], some (.object "java/lang/String")⟩ := by decide +kernel
theorem pd20 : parseMethodDescriptor "(Lcom/example/hybrev/hybrev/RevocationEvent$Kind;Ljava/lang/String;)V" = some ⟨[(.object "com/example/hybrev/hybrev/RevocationEvent$Kind"), (.object "java/lang/String")], none⟩ := by decide +kernel
theorem pd21 : parseMethodDescriptor "(Ljava/lang/Object;)Z" = some ⟨[(.object "java/lang/Object")], some .boolean⟩ := by decide +kernel
theorem pd22 : parseMethodDescriptor "()Lcom/example/hybrev/hybrev/EventPage;" = some ⟨[], some (.object "com/example/hybrev/hybrev/EventPage")⟩ := by decide +kernel
theorem pn0 : plainName x.cls = true := by first | (simp [x, plainName, overriddenIn]; done) | decide +kernel
theorem pn1 : plainName "java/lang/String" = true := by first | (simp [plainName, overriddenIn]; done) | decide +kernel
theorem pn2 : plainName "com/example/hybrev/hybrev/EventPageIsMissedPinLaw" = true := by first | (simp [plainName, overriddenIn]; done) | decide +kernel
theorem pn3 : plainName "java/util/AbstractCollection" = true := by first | (simp [plainName, overriddenIn]; done) | decide +kernel
theorem pn4 : plainName "java/util/AbstractList" = true := by first | (simp [plainName, overriddenIn]; done) | decide +kernel
theorem pn5 : plainName "java/util/ArrayList" = true := by first | (simp [plainName, overriddenIn]; done) | decide +kernel
theorem pn6 : plainName "com/example/hybrev/hybrev/RevocationEvent" = true := by first | (simp [plainName, overriddenIn]; done) | decide +kernel
theorem pn7 : plainName "java/util/Objects" = true := by first | (simp [plainName, overriddenIn]; done) | decide +kernel
theorem pn8 : plainName "java/util/ImmutableCollections$AbstractImmutableCollection" = true := by first | (simp [plainName, overriddenIn]; done) | decide +kernel
theorem pn9 : plainName "java/util/ImmutableCollections$AbstractImmutableList" = true := by first | (simp [plainName, overriddenIn]; done) | decide +kernel
theorem pn10 : plainName "java/util/ImmutableCollections$List12" = true := by first | (simp [plainName, overriddenIn]; done) | decide +kernel
theorem pn11 : plainName "java/util/List" = true := by first | (simp [plainName, overriddenIn]; done) | decide +kernel
theorem pn12 : plainName "java/util/Arrays" = true := by first | (simp [plainName, overriddenIn]; done) | decide +kernel
theorem pn13 : plainName "java/util/ImmutableCollections" = true := by first | (simp [plainName, overriddenIn]; done) | decide +kernel
theorem pn14 : plainName "com/example/hybrev/hybrev/EventPage" = true := by first | (simp [plainName, overriddenIn]; done) | decide +kernel
theorem pn15 : plainName "java/util/ImmutableCollections$ListN" = true := by first | (simp [plainName, overriddenIn]; done) | decide +kernel
theorem own_EW {Z : State} {a0 : Array Value} (hw : ∀ d ∈ tables_1, d.before a0 Z = true) : EW Z a0 consts_1 := EW.cons (wd93 hw) (by decide) (EW.cons (wd47 hw) (by decide) EW.nil)
theorem own_CH {Z : State} {tb : Tables} {e : Env} {a0 : Array Value} (hw : ∀ d ∈ tables_1, d.before a0 Z = true) (hc : Calls_1 tb e a0 Z) (hcw : Jvm.Lit.compactW.before a0 Z = true) : CHv Z consts_1 Z.vm Z.heap := CHv.start (own_EW hw) (fun p hp => hc.2.1 p hp) hcw (wd48 hw) (wd36 hw)
theorem own_no12 {Z : State} {a0 : Array Value} (hw : ∀ d ∈ tables_1, d.before a0 Z = true) : ∃ c t, Z.vm.findClass "java/util/ArrayList" = some c ∧ Z.vm.findClass "java/util/ImmutableCollections$List12" = some t ∧ Z.vm.assignable c t = false := by
  obtain ⟨t, kt, g1, g2, g3, g4, -⟩ := Cond.instantiable_spec (wd218 hw)
  have hO : NS Z "java/lang/Object" "java/util/ImmutableCollections$List12" := by
    obtain ⟨c, k, h1, h2, h3, -, -⟩ := Cond.noSuperclass_spec (wd74 hw)
    have ne := ids_ne h1 g1 (by decide)
    refine ⟨c, t, h1, g1, fun fuel => ?_⟩
    cases fuel with
    | zero => rfl
    | succ f => simp [Vm.isSubclassAux, ne, h2, h3]
  obtain ⟨c, t', h0, g0, n3⟩ := NS.step (wd71 hw) (NS.step (wd72 hw) (NS.step (wd73 hw) hO (by decide)) (by decide)) (by decide)
  cases g1.symm.trans g0
  obtain ⟨p, k, kp, h1, h2, h3, h4, h5, -, h7⟩ := Cond.superclass_spec h0 (wd71 hw)
  have ne := ids_ne h0 g1 (by decide)
  refine ⟨c, t, h0, g1, ?_⟩
  show Z.vm.assignableAux (255 + 1) c t = false
  have g7 : kt.isInterface = false := (Bool.or_eq_false_iff.mp g4).1
  simp [Vm.assignableAux, ne, h2, g2, h5, g3, g7, Vm.isSubclass, n3]
theorem own_noN {Z : State} {a0 : Array Value} (hw : ∀ d ∈ tables_1, d.before a0 Z = true) : ∃ c t, Z.vm.findClass "java/util/ArrayList" = some c ∧ Z.vm.findClass "java/util/ImmutableCollections$ListN" = some t ∧ Z.vm.assignable c t = false := by
  obtain ⟨c9, r9, m9, -, -, hm9, -, kt, g2, g7⟩ := Cond.selects_spec (wd124 hw)
  have g1 := findClass_of_methodNamed hm9
  generalize m9.cls = t at g1 g2
  have hO : NS Z "java/lang/Object" "java/util/ImmutableCollections$ListN" := by
    obtain ⟨c, k, h1, h2, h3, -, -⟩ := Cond.noSuperclass_spec (wd74 hw)
    have ne := ids_ne h1 g1 (by decide)
    refine ⟨c, t, h1, g1, fun fuel => ?_⟩
    cases fuel with
    | zero => rfl
    | succ f => simp [Vm.isSubclassAux, ne, h2, h3]
  obtain ⟨c, t', h0, g0, n3⟩ := NS.step (wd71 hw) (NS.step (wd72 hw) (NS.step (wd73 hw) hO (by decide)) (by decide)) (by decide)
  cases g1.symm.trans g0
  obtain ⟨p, k, kp, h1, h2, h3, h4, h5, -, h7⟩ := Cond.superclass_spec h0 (wd71 hw)
  have ne := ids_ne h0 g1 (by decide)
  refine ⟨c, t, h0, g1, ?_⟩
  show Z.vm.assignableAux (255 + 1) c t = false
  cases hk : kt.kind <;> simp [Vm.assignableAux, ne, h2, g2, h5, hk, g7, Vm.isSubclass, n3]

def Q7 (Z : State) (a1 : Addr) (a2 : Addr) (h0 : Heap) (n0 : Nat) (v : Option Value) (h : Heap) (L : List Loc) : Prop := ∃ vx : Addr, ∃ k : ClassId, v = none ∧ Fr n0 L ∧ Keep h0 h [a1] ∧ Exa Z h a1 "java/lang/String" ∧ Fld Z h a1 "java/lang/String" "coder" "B" (.int (0 : Int32)) ∧ Fld Z h a1 "java/lang/String" "value" "[B" (.ref vx) ∧ Arv Z h vx k .byte (0 : Int32) [] (.int (0 : Int32))
set_option maxRecDepth 65536 in
set_option maxHeartbeats 40000000 in
theorem rm7 (l : Launch) (Z : State) (a0 : Array Value) (hw : ∀ d ∈ tables_1, d.before a0 Z = true) (a1 : Addr) (a2 : Addr) (h0 : Heap) (n0 : Nat) (O0 : Old Z n0 h0) (E_a1 : Exa Z h0 a1 "java/lang/String") (F_a1_value : Fld Z h0 a1 "java/lang/String" "value" "[B" .null) (F_a1_coder : Fld Z h0 a1 "java/lang/String" "coder" "B" (.int (0 : Int32))) (na1 : n0 ≤ a1) :
    MetH l Z consts_1 (⟨"java/lang/String", "<init>", "([CIILjava/lang/Void;)V"⟩ : MethodName) jdk_42_method_149_code 6 none ({ frames := 1, cells := 4, slots := 8, locals := 12 } : Room) [] #[(.ref a1), (.ref a2), (.int (0 : Int32)), (.int (0 : Int32)), .null] h0 [a1] (Q7 Z a1 a2 h0 n0) := by
  refine metH_of (L0 := #[.val (.ref a1), .val (.ref a2), .val (.int (0 : Int32)), .val (.int (0 : Int32)), .val .null, .unset]) (plainFor_of_name pn1) (fun m => by first | (simp [entryFrame, mkF, argsToLocals, Value.category]; done) | rfl) ?_
  intro p e s m below meth c T0 hx hby hml hown hnm hret hlk hZ B0 hS0 X0 e0
  have N0 := Fr.nil n0
  have sf_a1 := hS0 a1 (List.mem_of_getElem? (i := 0) rfl)
  have KK0 : Keep h0 h0 [a1] := Keep.refl _ _
  refine o_aloadN X0 hx (hb hby d7_0) rfl rfl rfl ?_
  refine o_initO X0 hx hZ hown (wd46 hw) (wd19 hw) (wd20 hw) e0 (by rw [hml]; rfl) (hb hby d7_1) (by decide) (W := 0) rfl (by decide) rfl fun T1 X1 e1 => ?_
  refine o_iloadN X1 hx (hb hby d7_4) rfl rfl ?_
  refine o_ifNo X1 hx (hb hby d7_5) ((if0 _ _).trans (teq (by decide)).2) rfl ?_
  refine o_aloadN X1 hx (hb hby d7_8) rfl rfl rfl ?_
  refine o_ldcF X1 hx hZ hown (wd47 hw) (own_sa hw) e1 B0 (own_EW hw) (by decide) (vs := []) (z := (0 : Int32)) ⟨by decide, by decide +kernel⟩ (by decide) rfl (hb hby d7_9) (n := 0) (by decide) (by decide) (by decide) (by decide) (cells' := 2) (slots' := 4) rfl rfl rfl fun s9 T9 h9 a9 b9 kb9 X9 e9 E9 B9 hZ9 hown9 Ea9 Fc9 Fv9 (Ab9 : Arv Z h9 b9 kb9 .byte (0 : Int32) [] (.int (0 : Int32))) hS9 hN9 => ?_
  have KE9_h0 : Keep h0 h9 [a1] := KK0.ext E9
  have OE9 : Old Z n0 h9 := O0.ext E9
  have sf_a1_2 := hS9 a1 E_a1.lt sf_a1
  have nS9 := hN9 a1 E_a1.lt sf_a1
  refine o_getF X9 hx hZ9 hown9 (host := "") (Or.inl (wd53 hw)) Via.refl e9 Fv9 (hb hby d7_11) rfl fun T11 X11 e11 => ?_
  have fF14 : Fld Z h9 a1 "java/lang/String" "value" "[B" .null := (F_a1_value.ext E9)
  have fE14 : Exa Z h9 a1 "java/lang/String" := (E_a1.ext E9)
  refine o_putF X11 hx hZ9 hown9 (host := "") (Or.inl (wd53 hw)) Via.refl e11 fF14 fE14 (Or.inr ⟨(wd49 hw), rfl, hnm⟩) (wd36 hw) (ty := (.array .byte)) (by decide) rfl rfl (hb hby d7_14) rfl fun T14 h14 X14 e14 W14 => ?_
  have F14 : Fld Z h14 a1 "java/lang/String" "value" "[B" (.ref b9) := fF14.same W14
  have N14 := Fr.snoc X14 N0 na1
  have KW14_h0 : Keep h0 h14 [a1] := KE9_h0.wr W14 (Or.inl (List.mem_of_getElem? (i := 0) rfl))
  have OW14 : Old Z n0 h14 := OE9.wr W14 na1
  have BW14 : HB Z consts_1 s s9 h0 h14 := B9.wr W14 sf_a1_2
  have sf_a1_3 : Safe Z consts_1 s9.vm h14 a1 := own_sfW B9.ch W14 sf_a1_2 sf_a1_2
  refine o_aloadN X14 hx (hb hby d7_17) rfl rfl rfl ?_
  have fE18 : Exa Z h14 a1 "java/lang/String" := (fE14.wr W14)
  refine o_ldcF X14 hx hZ9 hown9 (wd47 hw) (own_sa hw) e14 BW14 (own_EW hw) (by decide) (vs := []) (z := (0 : Int32)) ⟨by decide, by decide +kernel⟩ (by decide) rfl (hb hby d7_18) (n := 0) (by decide) (by decide) (by decide) (by decide) (cells' := 4) (slots' := 8) rfl rfl rfl fun s18 T18 h18 a18 b18 kb18 X18 e18 E18 B18 hZ18 hown18 Ea18 Fc18 Fv18 (Ab18 : Arv Z h18 b18 kb18 .byte (0 : Int32) [] (.int (0 : Int32))) hS18 hN18 => ?_
  have KE18_h0 : Keep h0 h18 [a1] := KW14_h0.ext E18
  have OE18 : Old Z n0 h18 := OW14.ext E18
  have sf_a1_4 := hS18 a1 fE18.lt sf_a1_3
  have nS18 := hN18 a1 fE18.lt sf_a1_3
  refine o_getF X18 hx hZ18 hown18 (host := "") (Or.inl (wd54 hw)) Via.refl e18 Fc18 (hb hby d7_20) rfl fun T20 X20 e20 => ?_
  have fF23 : Fld Z h18 a1 "java/lang/String" "coder" "B" (.int (0 : Int32)) := (((F_a1_coder.ext E9).other W14 (Or.inr (slot_ne (Z := Z) (a0 := a0) (Or.inr (wd50 hw)) (Or.inr (wd49 hw)) (by decide) (t := .byte) (t' := (.array .byte)) (by decide) (by decide)))).ext E18)
  have fE23 : Exa Z h18 a1 "java/lang/String" := (fE18.ext E18)
  refine o_putF X20 hx hZ18 hown18 (host := "") (Or.inl (wd54 hw)) Via.refl e20 fF23 fE23 (Or.inr ⟨(wd50 hw), rfl, hnm⟩) (wd36 hw) (ty := .byte) (by decide) rfl rfl (hb hby d7_23) rfl fun T23 h23 X23 e23 W23 => ?_
  have F23 : Fld Z h23 a1 "java/lang/String" "coder" "B" (.int (0 : Int32)) := fF23.same W23
  have N23 := Fr.snoc X23 N14 na1
  have KW23_h0 : Keep h0 h23 [a1] := KE18_h0.wr W23 (Or.inl (List.mem_of_getElem? (i := 0) rfl))
  have OW23 : Old Z n0 h23 := OE18.wr W23 na1
  have BW23 : HB Z consts_1 s s18 h0 h23 := B18.wr W23 sf_a1_4
  have sf_a1_5 : Safe Z consts_1 s18.vm h23 a1 := own_sfW B18.ch W23 sf_a1_4 sf_a1_4
  have fE26 : Exa Z h23 a1 "java/lang/String" := (fE23.wr W23)
  have fF26 : Fld Z h23 a1 "java/lang/String" "value" "[B" (.ref b9) := ((F14.ext E18).other W23 (Or.inr (slot_ne (Z := Z) (a0 := a0) (Or.inr (wd49 hw)) (Or.inr (wd50 hw)) (by decide) (t := (.array .byte)) (t' := .byte) (by decide) (by decide))))
  have fA26 : Arv Z h23 b9 kb9 .byte (0 : Int32) [] (.int (0 : Int32)) := (((Ab9.other W14 (Ne.symm nS9.2)).ext E18).other W23 (Ne.symm nS9.2))
  exact o_retVH X23 hx hlk hret (hb hby d7_26) (by decide) (by decide) e23 hZ18 (own_EW hw) BW23 ⟨b9, kb9, rfl, N23, KW23_h0, fE26, F23, fF26, fA26⟩
def Q6 (Z : State) (a1 : Addr) (a2 : Addr) (k2 : ClassId) (h0 : Heap) (n0 : Nat) (v : Option Value) (h : Heap) (L : List Loc) : Prop := ∃ vx : Addr, ∃ k : ClassId, v = none ∧ Fr n0 L ∧ Keep h0 h [a1] ∧ Exa Z h a1 "java/lang/String" ∧ Fld Z h a1 "java/lang/String" "coder" "B" (.int (0 : Int32)) ∧ Fld Z h a1 "java/lang/String" "value" "[B" (.ref vx) ∧ Arv Z h vx k .byte (0 : Int32) [] (.int (0 : Int32))
set_option maxRecDepth 65536 in
set_option maxHeartbeats 40000000 in
theorem rm6 (l : Launch) (Z : State) (a0 : Array Value) (hw : ∀ d ∈ tables_1, d.before a0 Z = true) (a1 : Addr) (a2 : Addr) (k2 : ClassId) (h0 : Heap) (n0 : Nat) (O0 : Old Z n0 h0) (E_a1 : Exa Z h0 a1 "java/lang/String") (F_a1_value : Fld Z h0 a1 "java/lang/String" "value" "[B" .null) (F_a1_coder : Fld Z h0 a1 "java/lang/String" "coder" "B" (.int (0 : Int32))) (A_a2 : Arv Z h0 a2 k2 .char (0 : Int32) [] (.int (0 : Int32))) (na1 : n0 ≤ a1) :
    MetH l Z consts_1 (⟨"java/lang/String", "<init>", "([C)V"⟩ : MethodName) jdk_42_method_3_code 2 none ({ frames := 2, cells := 4, slots := 8, locals := 29 } : Room) [] #[(.ref a1), (.ref a2)] h0 [a1] (Q6 Z a1 a2 k2 h0 n0) := by
  refine metH_of (L0 := #[.val (.ref a1), .val (.ref a2)]) (plainFor_of_name pn1) (fun m => by first | (simp [entryFrame, mkF, argsToLocals, Value.category]; done) | rfl) ?_
  intro p e s m below meth c T0 hx hby hml hown hnm hret hlk hZ B0 hS0 X0 e0
  have N0 := Fr.nil n0
  have sf_a1 := hS0 a1 (List.mem_of_getElem? (i := 0) rfl)
  have KK0 : Keep h0 h0 [a1] := Keep.refl _ _
  refine o_aloadN X0 hx (hb hby d6_0) rfl rfl rfl ?_
  refine o_aloadN X0 hx (hb hby d6_1) rfl rfl rfl ?_
  refine o_iconst X0 hx (hb hby d6_2) (v := (0 : Int32)) rfl rfl ?_
  refine o_aloadN X0 hx (hb hby d6_3) rfl rfl rfl ?_
  refine o_alen X0 hx hZ e0 A_a2 (hb hby d6_4) rfl ?_
  refine o_aconstNull X0 hx (hb hby d6_5) rfl ?_
  refine o_specialF X0 hx hZ rfl rfl hown (wd42 hw) (wd43 hw) (by decide) (a := a1) (rm7 l Z a0 hw a1 a2 h0 n0 O0 E_a1 F_a1_value F_a1_coder na1) (wd45 hw) (wd37 hw) e0 B0 (own_EW hw) (slS E_a1.lt sl0) (slS sf_a1 sl0) (by rw [hml]; rfl) (argsL := [(.ref a2), (.int (0 : Int32)), (.int (0 : Int32)), .null]) (rest := []) (W := 0) pd0 rfl rfl rfl rfl (hb hby d6_6) (by decide) (by decide) (by decide) (by decide) (cells' := 4) (slots' := 8) rfl rfl rfl fun v6 s6 T6 h6 Lc6 X6 e6 B6 hZ6 hown6 hS6 hq6 => ?_
  obtain ⟨vx_6, k_6, rfl, N6q, K6, qE_6, qF_6, qF_6_2, qA_6⟩ := hq6
  have N6 := Fr.app N0 N6q
  have KK6_h0 : Keep h0 h6 [a1] := KK0.trans K6 (allS (Or.inl (List.mem_of_getElem? (i := 0) rfl)) all0)
  have OK6 : Old Z n0 h6 := O0.keep K6 (allS na1 all0)
  have sf_a1_2 := hS6 a1 E_a1.lt sf_a1
  show Goes p.tables e below (EndsH Z consts_1 s h0 (Q6 Z a1 a2 k2 h0 n0) ({ frames := 2, cells := 4, slots := 8, locals := 29 } : Room).cells ({ frames := 2, cells := 4, slots := 8, locals := 29 } : Room).slots) (T6.setTop (mkF m 9 #[.val (.ref a1), .val (.ref a2)] []))
  exact o_retVH X6 hx hlk hret (hb hby d6_9) (by decide) (by decide) e6 hZ6 (own_EW hw) B6 ⟨vx_6, k_6, rfl, N6, KK6_h0, qE_6, qF_6, qF_6_2, qA_6⟩
def Q5 (Z : State) (p1 : Int32) (p2 : Int32) (cs : Int32) (h0 : Heap) (n0 : Nat) (v : Option Value) (h : Heap) (L : List Loc) : Prop := ∃ b : Addr, v = some (.ref b) ∧ Fr n0 L ∧ Keep h0 h [] ∧ (h0.size ≤ b) ∧ Exa Z h b "java/lang/String"
set_option maxRecDepth 65536 in
set_option maxHeartbeats 40000000 in
theorem rm5 (l : Launch) (Z : State) (a0 : Array Value) (hw : ∀ d ∈ tables_1, d.before a0 Z = true) (p1 : Int32) (p2 : Int32) (cs : Int32) (h0 : Heap) (n0 : Nat) (O0 : Old Z n0 h0) (S_COMPACT_STRINGS : Sta Z Z.heap "java/lang/String" "COMPACT_STRINGS" "Z" (.int cs)) (hcs : ¬ (cs = (0 : Int32))) :
    MetH l Z consts_1 (⟨"com/example/hybrev/hybrev/EventPageIsMissedPinLaw", "str", "(II)Ljava/lang/String;"⟩ : MethodName) method_3_code 7 (some (.object "java/lang/String")) ({ frames := 4, cells := 6, slots := 12, locals := 66 } : Room) [] #[(.int p1), (.int p2)] h0 [] (Q5 Z p1 p2 cs h0 n0) := by
  refine metH_of (L0 := #[.val (.int p1), .val (.int p2), .unset, .unset, .unset, .unset, .unset]) (plainFor_of_name pn2) (fun m => by first | (simp [entryFrame, mkF, argsToLocals, Value.category]; done) | rfl) ?_
  intro p e s m below meth c T0 hx hby hml hown hnm hret hlk hZ B0 hS0 X0 e0
  have N0 := Fr.nil n0
  have KK0 : Keep h0 h0 [] := Keep.refl _ _
  refine o_iloadN X0 hx (hb hby d5_0) rfl rfl ?_
  refine o_iconst X0 hx (hb hby d5_1) (v := (3 : Int32)) rfl rfl ?_
  refine o_iand X0 hx (hb hby d5_2) rfl ?_
  refine o_istoreN X0 hx (hb hby d5_3) (L' := #[.val (.int p1), .val (.int p2), .val (.int (p2 &&& (3 : Int32))), .unset, .unset, .unset, .unset]) rfl rfl ?_
  refine o_iloadN X0 hx (hb hby d5_4) rfl rfl ?_
  refine o_sipush X0 hx (hb hby d5_5) (v := (255 : Int32)) rfl rfl ?_
  refine o_iand X0 hx (hb hby d5_8) rfl ?_
  refine o_i2c X0 hx (hb hby d5_9) rfl ?_
  refine o_istoreN X0 hx (hb hby d5_10) (L' := #[.val (.int p1), .val (.int p2), .val (.int (p2 &&& (3 : Int32))), .val (.int ((p1 &&& (255 : Int32)).toUInt32.toUInt16.toUInt32.toInt32)), .unset, .unset, .unset]) rfl rfl ?_
  refine o_iloadN X0 hx (hb hby d5_11) rfl rfl ?_
  refine o_bipush X0 hx (hb hby d5_12) (v := (8 : Int32)) rfl rfl ?_
  refine o_iushr X0 hx (hb hby d5_14) rfl ?_
  refine o_sipush X0 hx (hb hby d5_15) (v := (255 : Int32)) rfl rfl ?_
  refine o_iand X0 hx (hb hby d5_18) rfl ?_
  refine o_i2c X0 hx (hb hby d5_19) rfl ?_
  refine o_istore X0 hx (hb hby d5_20) (L' := #[.val (.int p1), .val (.int p2), .val (.int (p2 &&& (3 : Int32))), .val (.int ((p1 &&& (255 : Int32)).toUInt32.toUInt16.toUInt32.toInt32)), .val (.int ((((p1.toUInt32 >>> ((8 : Int32) &&& 31).toUInt32).toInt32) &&& (255 : Int32)).toUInt32.toUInt16.toUInt32.toInt32)), .unset, .unset]) rfl rfl ?_
  refine o_iloadN X0 hx (hb hby d5_22) rfl rfl ?_
  refine o_bipush X0 hx (hb hby d5_23) (v := (16 : Int32)) rfl rfl ?_
  refine o_iushr X0 hx (hb hby d5_25) rfl ?_
  refine o_sipush X0 hx (hb hby d5_26) (v := (255 : Int32)) rfl rfl ?_
  refine o_iand X0 hx (hb hby d5_29) rfl ?_
  refine o_i2c X0 hx (hb hby d5_30) rfl ?_
  refine o_istore X0 hx (hb hby d5_31) (L' := #[.val (.int p1), .val (.int p2), .val (.int (p2 &&& (3 : Int32))), .val (.int ((p1 &&& (255 : Int32)).toUInt32.toUInt16.toUInt32.toInt32)), .val (.int ((((p1.toUInt32 >>> ((8 : Int32) &&& 31).toUInt32).toInt32) &&& (255 : Int32)).toUInt32.toUInt16.toUInt32.toInt32)), .val (.int ((((p1.toUInt32 >>> ((16 : Int32) &&& 31).toUInt32).toInt32) &&& (255 : Int32)).toUInt32.toUInt16.toUInt32.toInt32)), .unset]) rfl rfl ?_
  refine o_iloadN X0 hx (hb hby d5_33) rfl rfl ?_
  by_cases hc34 : (p2 &&& (3 : Int32)) = (0 : Int32)
  ·
    refine o_ifNo X0 hx (hb hby d5_34) ((if0 _ _).trans (teq hc34).2) rfl ?_
    refine o_new X0 hx hZ hown (wd35 hw) (wd36 hw) (wd37 hw) e0 (hb hby d5_37) (by decide) (by decide) (cells' := 1) (slots' := 4) rfl rfl rfl fun T37 h37 b37 g37 X37 e37 E37 A37 D37 => ?_
    have s_b37_h0 : h0.size ≤ b37 := Nat.le_trans KK0.1 (Nat.le_of_eq g37.symm)
    have n_b37 : n0 ≤ b37 := Nat.le_trans (O0.1 ▸ O0.2.1) (Nat.le_of_eq g37.symm)
    have KE37_h0 : Keep h0 h37 [] := KK0.ext E37
    have OE37 : Old Z n0 h37 := O0.ext E37
    have BE37 : HB Z consts_1 s s h0 h37 := B0.ext E37
    have sf_b37 : Safe Z consts_1 s.vm h37 b37 := own_sfE B0.ch E37 (Safe.new (Z := Z) (EL := consts_1) (vm := s.vm) (Nat.le_of_eq g37.symm))
    have Fb37_value : Fld Z h37 b37 "java/lang/String" "value" "[B" .null := D37 (Or.inr (wd49 hw)) (ty := (.array .byte)) (by decide)
    have Fb37_coder : Fld Z h37 b37 "java/lang/String" "coder" "B" (.int (0 : Int32)) := D37 (Or.inr (wd50 hw)) (ty := .byte) (by decide)
    refine o_dup X37 hx (hb hby d5_40) rfl rfl ?_
    refine o_iconst X37 hx (hb hby d5_41) (v := (0 : Int32)) rfl rfl ?_
    refine o_newPE (ad := "[C") (aty := .char) X37 hx hZ (wd38 hw) e37 (hb hby d5_42) (by decide) (cap := 0) (by decide) (by decide) (by decide) (by decide) (cells' := 2) (slots' := 4) rfl rfl rfl (by decide) fun T42 h42 k42 b42 g42 X42 e42 E42 A42 Ex42 => ?_
    have s_b42_h0 : h0.size ≤ b42 := Nat.le_trans KE37_h0.1 (Nat.le_of_eq g42.symm)
    have n_b42 : n0 ≤ b42 := Nat.le_trans (OE37.1 ▸ OE37.2.1) (Nat.le_of_eq g42.symm)
    have KE42_h0 : Keep h0 h42 [] := KE37_h0.ext E42
    have OE42 : Old Z n0 h42 := OE37.ext E42
    have BE42 : HB Z consts_1 s s h0 h42 := BE37.ext E42
    have sf_b37_2 : Safe Z consts_1 s.vm h42 b37 := own_sfE BE37.ch E42 sf_b37
    have sf_b42 : Safe Z consts_1 s.vm h42 b42 := own_sfE BE37.ch E42 (Safe.new (Z := Z) (EL := consts_1) (vm := s.vm) (Nat.le_of_eq g42.symm))
    have A_b42 : Arv Z h42 b42 k42 .char (0 : Int32) [] (.int (0 : Int32)) := (Arv.new A42 (by decide)).pad (pad_rep [] (.int (0 : Int32)) 0)
    have fE44 : Exa Z h42 b37 "java/lang/String" := (A37.ext E42)
    have fF44 : Fld Z h42 b37 "java/lang/String" "value" "[B" .null := (Fb37_value.ext E42)
    have fF44_2 : Fld Z h42 b37 "java/lang/String" "coder" "B" (.int (0 : Int32)) := (Fb37_coder.ext E42)
    refine o_specialF X42 hx hZ rfl rfl hown (wd39 hw) (wd40 hw) (by decide) (a := b37) (rm6 l Z a0 hw b37 b42 k42 h42 n0 OE42 fE44 fF44 fF44_2 A_b42 n_b37) (wd41 hw) (wd37 hw) e42 BE42 (own_EW hw) (slS fE44.lt sl0) (slS sf_b37_2 sl0) (by rw [hml]; rfl) (argsL := [(.ref b42)]) (rest := [(.ref b37)]) (W := 1) pd1 rfl rfl rfl rfl (hb hby d5_44) (by decide) (by decide) (by decide) (by decide) (cells' := 6) (slots' := 12) rfl rfl rfl fun v44 s44 T44 h44 Lc44 X44 e44 B44 hZ44 hown44 hS44 hq44 => ?_
    obtain ⟨vx_44, k_44, rfl, N44q, K44, qE_44, qF_44, qF_44_2, qA_44⟩ := hq44
    have N44 := Fr.app N0 N44q
    have KK44_h0 : Keep h0 h44 [] := KE42_h0.trans K44 (allS (Or.inr s_b37_h0) all0)
    have OK44 : Old Z n0 h44 := OE42.keep K44 (allS n_b37 all0)
    have sf_b37_3 := hS44 b37 fE44.lt sf_b37_2
    have sf_b42_2 := hS44 b42 A_b42.lt sf_b42
    show Goes p.tables e below (EndsH Z consts_1 s h0 (Q5 Z p1 p2 cs h0 n0) ({ frames := 4, cells := 6, slots := 12, locals := 66 } : Room).cells ({ frames := 4, cells := 6, slots := 12, locals := 66 } : Room).slots) (T44.setTop (mkF m 47 #[.val (.int p1), .val (.int p2), .val (.int (p2 &&& (3 : Int32))), .val (.int ((p1 &&& (255 : Int32)).toUInt32.toUInt16.toUInt32.toInt32)), .val (.int ((((p1.toUInt32 >>> ((8 : Int32) &&& 31).toUInt32).toInt32) &&& (255 : Int32)).toUInt32.toUInt16.toUInt32.toInt32)), .val (.int ((((p1.toUInt32 >>> ((16 : Int32) &&& 31).toUInt32).toInt32) &&& (255 : Int32)).toUInt32.toUInt16.toUInt32.toInt32)), .unset] [(.ref b37)]))
    exact o_retH X44 hx hlk (t := (.object "java/lang/String")) hret rfl (Or.inr (Or.inr (Or.inr (Or.inr ⟨rfl, rfl, rfl⟩)))) (hb hby d5_47) (by decide) (by decide) e44 hZ44 (own_EW hw) B44 ⟨b37, rfl, N44, KK44_h0, s_b37_h0, qE_44⟩
  ·
    refine o_ifYes X0 hx (hb hby d5_34) ((if0 _ _).trans (feq hc34).2) (by decide) (pc' := 48) (by decide) ?_
    refine o_iloadN X0 hx (hb hby d5_48) rfl rfl ?_
    refine o_iconst X0 hx (hb hby d5_49) (v := (1 : Int32)) rfl rfl ?_
    by_cases hc50 : (p2 &&& (3 : Int32)) = (1 : Int32)
    ·
      refine o_icmpNo X0 hx (hb hby d5_50) (teq hc50).2 rfl ?_
      refine o_iconst X0 hx (hb hby d5_53) (v := (1 : Int32)) rfl rfl ?_
      refine o_newPE (ad := "[C") (aty := .char) X0 hx hZ (wd38 hw) e0 (hb hby d5_54) (by decide) (cap := 1) (by decide) (by decide) (by decide) (by decide) (cells' := 1) (slots' := 1) rfl rfl rfl (by decide) fun T54 h54 k54 b54 g54 X54 e54 E54 A54 Ex54 => ?_
      have s_b54_h0 : h0.size ≤ b54 := Nat.le_trans KK0.1 (Nat.le_of_eq g54.symm)
      have n_b54 : n0 ≤ b54 := Nat.le_trans (O0.1 ▸ O0.2.1) (Nat.le_of_eq g54.symm)
      have KE54_h0 : Keep h0 h54 [] := KK0.ext E54
      have OE54 : Old Z n0 h54 := O0.ext E54
      have BE54 : HB Z consts_1 s s h0 h54 := B0.ext E54
      have sf_b54 : Safe Z consts_1 s.vm h54 b54 := own_sfE B0.ch E54 (Safe.new (Z := Z) (EL := consts_1) (vm := s.vm) (Nat.le_of_eq g54.symm))
      have A_b54 : Arv Z h54 b54 k54 .char (1 : Int32) [(.int (0 : Int32))] (.int (0 : Int32)) := (Arv.new A54 (by decide)).pad (pad_rep [] (.int (0 : Int32)) 1)
      refine o_astore X54 hx (hb hby d5_56) rfl (L' := #[.val (.int p1), .val (.int p2), .val (.int (p2 &&& (3 : Int32))), .val (.int ((p1 &&& (255 : Int32)).toUInt32.toUInt16.toUInt32.toInt32)), .val (.int ((((p1.toUInt32 >>> ((8 : Int32) &&& 31).toUInt32).toInt32) &&& (255 : Int32)).toUInt32.toUInt16.toUInt32.toInt32)), .val (.int ((((p1.toUInt32 >>> ((16 : Int32) &&& 31).toUInt32).toInt32) &&& (255 : Int32)).toUInt32.toUInt16.toUInt32.toInt32)), .val (.ref b54)]) rfl rfl ?_
      refine o_aload X54 hx (hb hby d5_58) rfl rfl rfl ?_
      refine o_iconst X54 hx (hb hby d5_60) (v := (0 : Int32)) rfl rfl ?_
      refine o_iloadN X54 hx (hb hby d5_61) rfl rfl ?_
      refine o_stC X54 hx hZ e54 A_b54 (i := 0) ⟨by decide, by decide⟩ (by decide) (Nat.le_of_ble_eq_true rfl) (hb hby d5_62) rfl fun T62 h62 X62 e62 W62 (A62 : Arv Z h62 b54 k54 .char (1 : Int32) [(.int (nar .char ((p1 &&& (255 : Int32)).toUInt32.toUInt16.toUInt32.toInt32)))] (.int (0 : Int32))) => ?_
      have N62 := Fr.snoc X62 N0 n_b54
      have KW62_h0 : Keep h0 h62 [] := KE54_h0.wr W62 (Or.inr s_b54_h0)
      have OW62 : Old Z n0 h62 := OE54.wr W62 n_b54
      have BW62 : HB Z consts_1 s s h0 h62 := BE54.wr W62 sf_b54
      have sf_b54_2 : Safe Z consts_1 s.vm h62 b54 := own_sfW BE54.ch W62 sf_b54 sf_b54
      refine o_new X62 hx hZ hown (wd35 hw) (wd36 hw) (wd37 hw) e62 (hb hby d5_63) (by decide) (by decide) (cells' := 2) (slots' := 5) rfl rfl rfl fun T63 h63 b63 g63 X63 e63 E63 A63 D63 => ?_
      have s_b63_h0 : h0.size ≤ b63 := Nat.le_trans KW62_h0.1 (Nat.le_of_eq g63.symm)
      have n_b63 : n0 ≤ b63 := Nat.le_trans (OW62.1 ▸ OW62.2.1) (Nat.le_of_eq g63.symm)
      have KE63_h0 : Keep h0 h63 [] := KW62_h0.ext E63
      have OE63 : Old Z n0 h63 := OW62.ext E63
      have BE63 : HB Z consts_1 s s h0 h63 := BW62.ext E63
      have sf_b54_3 : Safe Z consts_1 s.vm h63 b54 := own_sfE BW62.ch E63 sf_b54_2
      have sf_b63 : Safe Z consts_1 s.vm h63 b63 := own_sfE BW62.ch E63 (Safe.new (Z := Z) (EL := consts_1) (vm := s.vm) (Nat.le_of_eq g63.symm))
      have Fb63_value : Fld Z h63 b63 "java/lang/String" "value" "[B" .null := D63 (Or.inr (wd49 hw)) (ty := (.array .byte)) (by decide)
      have Fb63_coder : Fld Z h63 b63 "java/lang/String" "coder" "B" (.int (0 : Int32)) := D63 (Or.inr (wd50 hw)) (ty := .byte) (by decide)
      refine o_dup X63 hx (hb hby d5_66) rfl rfl ?_
      refine o_aload X63 hx (hb hby d5_67) rfl rfl rfl ?_
      have fA69 : Arv Z h63 b54 k54 .char (1 : Int32) [(.int (nar .char ((p1 &&& (255 : Int32)).toUInt32.toUInt16.toUInt32.toInt32)))] (.int (0 : Int32)) := (A62.ext E63)
      refine o_newStr X63 hx hZ hown (wd39 hw) (wd40 hw) (wd41 hw) (own_ws hw) (wd36 hw) e63 (by rw [hml]; rfl) (cs := [(nar .char ((p1 &&& (255 : Int32)).toUInt32.toUInt16.toUInt32.toInt32))]) n_b63 OE63 A63 Fb63_value Fb63_coder fA69 S_COMPACT_STRINGS hcs (n := 1) rfl rfl (by decide) (by decide) (c8S (own_c8n (own_mask _)) c80) (rest := [(.ref b63)]) (W := 1) rfl (hb hby d5_69) (by decide) (by decide) (by decide) (by decide) (cells' := 3) (slots' := 6) rfl rfl rfl fun T69 h69 Lc69 t69 kb69 X69 e69 Nq69 Kq69 Eq69 Cq69 gq69 Vq69 (Aq69 : Arv Z h69 t69 kb69 .byte (1 : Int32) [(.int ((nar .char ((p1 &&& (255 : Int32)).toUInt32.toUInt16.toUInt32.toInt32)).toInt8.toInt32))] (.int (0 : Int32))) => ?_
      have N69 := Fr.app N62 Nq69
      have s_t69_h0 : h0.size ≤ t69 := Nat.le_trans KE63_h0.1 gq69
      have n_t69 : n0 ≤ t69 := Nat.le_trans (OE63.1 ▸ OE63.2.1) gq69
      have KKq69_h0 : Keep h0 h69 [] := KE63_h0.trans Kq69 (allS (Or.inr s_b63_h0) all0)
      have OKq69 : Old Z n0 h69 := OE63.keep Kq69 (allS n_b63 all0)
      have BKq69 : HB Z consts_1 s s h0 h69 := BE63.keep Kq69 (slS sf_b63 sl0)
      have sf_b54_4 : Safe Z consts_1 s.vm h69 b54 := own_sfK BE63.ch Kq69 (slS sf_b63 sl0) sf_b54_3
      have sf_b63_2 : Safe Z consts_1 s.vm h69 b63 := own_sfK BE63.ch Kq69 (slS sf_b63 sl0) sf_b63
      have sf_t69 : Safe Z consts_1 s.vm h69 t69 := own_sfK BE63.ch Kq69 (slS sf_b63 sl0) (Safe.new (Z := Z) (EL := consts_1) (vm := s.vm) gq69)
      exact o_retH X69 hx hlk (t := (.object "java/lang/String")) hret rfl (Or.inr (Or.inr (Or.inr (Or.inr ⟨rfl, rfl, rfl⟩)))) (hb hby d5_72) (by decide) (by decide) e69 hZ (own_EW hw) BKq69 ⟨b63, rfl, N69, KKq69_h0, s_b63_h0, Eq69⟩
    ·
      refine o_icmpYes X0 hx (hb hby d5_50) (feq hc50).2 (by decide) (pc' := 73) (by decide) ?_
      refine o_iloadN X0 hx (hb hby d5_73) rfl rfl ?_
      refine o_iconst X0 hx (hb hby d5_74) (v := (2 : Int32)) rfl rfl ?_
      by_cases hc75 : (p2 &&& (3 : Int32)) = (2 : Int32)
      ·
        refine o_icmpNo X0 hx (hb hby d5_75) (teq hc75).2 rfl ?_
        refine o_iconst X0 hx (hb hby d5_78) (v := (2 : Int32)) rfl rfl ?_
        refine o_newPE (ad := "[C") (aty := .char) X0 hx hZ (wd38 hw) e0 (hb hby d5_79) (by decide) (cap := 2) (by decide) (by decide) (by decide) (by decide) (cells' := 1) (slots' := 2) rfl rfl rfl (by decide) fun T79 h79 k79 b79 g79 X79 e79 E79 A79 Ex79 => ?_
        have s_b79_h0 : h0.size ≤ b79 := Nat.le_trans KK0.1 (Nat.le_of_eq g79.symm)
        have n_b79 : n0 ≤ b79 := Nat.le_trans (O0.1 ▸ O0.2.1) (Nat.le_of_eq g79.symm)
        have KE79_h0 : Keep h0 h79 [] := KK0.ext E79
        have OE79 : Old Z n0 h79 := O0.ext E79
        have BE79 : HB Z consts_1 s s h0 h79 := B0.ext E79
        have sf_b79 : Safe Z consts_1 s.vm h79 b79 := own_sfE B0.ch E79 (Safe.new (Z := Z) (EL := consts_1) (vm := s.vm) (Nat.le_of_eq g79.symm))
        have A_b79 : Arv Z h79 b79 k79 .char (2 : Int32) [(.int (0 : Int32)), (.int (0 : Int32))] (.int (0 : Int32)) := (Arv.new A79 (by decide)).pad (pad_rep [] (.int (0 : Int32)) 2)
        refine o_astore X79 hx (hb hby d5_81) rfl (L' := #[.val (.int p1), .val (.int p2), .val (.int (p2 &&& (3 : Int32))), .val (.int ((p1 &&& (255 : Int32)).toUInt32.toUInt16.toUInt32.toInt32)), .val (.int ((((p1.toUInt32 >>> ((8 : Int32) &&& 31).toUInt32).toInt32) &&& (255 : Int32)).toUInt32.toUInt16.toUInt32.toInt32)), .val (.int ((((p1.toUInt32 >>> ((16 : Int32) &&& 31).toUInt32).toInt32) &&& (255 : Int32)).toUInt32.toUInt16.toUInt32.toInt32)), .val (.ref b79)]) rfl rfl ?_
        refine o_aload X79 hx (hb hby d5_83) rfl rfl rfl ?_
        refine o_iconst X79 hx (hb hby d5_85) (v := (0 : Int32)) rfl rfl ?_
        refine o_iloadN X79 hx (hb hby d5_86) rfl rfl ?_
        refine o_stC X79 hx hZ e79 A_b79 (i := 0) ⟨by decide, by decide⟩ (by decide) (Nat.le_of_ble_eq_true rfl) (hb hby d5_87) rfl fun T87 h87 X87 e87 W87 (A87 : Arv Z h87 b79 k79 .char (2 : Int32) [(.int (nar .char ((p1 &&& (255 : Int32)).toUInt32.toUInt16.toUInt32.toInt32))), (.int (0 : Int32))] (.int (0 : Int32))) => ?_
        have N87 := Fr.snoc X87 N0 n_b79
        have KW87_h0 : Keep h0 h87 [] := KE79_h0.wr W87 (Or.inr s_b79_h0)
        have OW87 : Old Z n0 h87 := OE79.wr W87 n_b79
        have BW87 : HB Z consts_1 s s h0 h87 := BE79.wr W87 sf_b79
        have sf_b79_2 : Safe Z consts_1 s.vm h87 b79 := own_sfW BE79.ch W87 sf_b79 sf_b79
        refine o_aload X87 hx (hb hby d5_88) rfl rfl rfl ?_
        refine o_iconst X87 hx (hb hby d5_90) (v := (1 : Int32)) rfl rfl ?_
        refine o_iload X87 hx (hb hby d5_91) rfl rfl ?_
        refine o_stC X87 hx hZ e87 A87 (i := 1) ⟨by decide, by decide⟩ (by decide) (Nat.le_of_ble_eq_true rfl) (hb hby d5_93) rfl fun T93 h93 X93 e93 W93 (A93 : Arv Z h93 b79 k79 .char (2 : Int32) [(.int (nar .char ((p1 &&& (255 : Int32)).toUInt32.toUInt16.toUInt32.toInt32))), (.int (nar .char ((((p1.toUInt32 >>> ((8 : Int32) &&& 31).toUInt32).toInt32) &&& (255 : Int32)).toUInt32.toUInt16.toUInt32.toInt32)))] (.int (0 : Int32))) => ?_
        have N93 := Fr.snoc X93 N87 n_b79
        have KW93_h0 : Keep h0 h93 [] := KW87_h0.wr W93 (Or.inr s_b79_h0)
        have OW93 : Old Z n0 h93 := OW87.wr W93 n_b79
        have BW93 : HB Z consts_1 s s h0 h93 := BW87.wr W93 sf_b79_2
        have sf_b79_3 : Safe Z consts_1 s.vm h93 b79 := own_sfW BW87.ch W93 sf_b79_2 sf_b79_2
        refine o_new X93 hx hZ hown (wd35 hw) (wd36 hw) (wd37 hw) e93 (hb hby d5_94) (by decide) (by decide) (cells' := 2) (slots' := 6) rfl rfl rfl fun T94 h94 b94 g94 X94 e94 E94 A94 D94 => ?_
        have s_b94_h0 : h0.size ≤ b94 := Nat.le_trans KW93_h0.1 (Nat.le_of_eq g94.symm)
        have n_b94 : n0 ≤ b94 := Nat.le_trans (OW93.1 ▸ OW93.2.1) (Nat.le_of_eq g94.symm)
        have KE94_h0 : Keep h0 h94 [] := KW93_h0.ext E94
        have OE94 : Old Z n0 h94 := OW93.ext E94
        have BE94 : HB Z consts_1 s s h0 h94 := BW93.ext E94
        have sf_b79_4 : Safe Z consts_1 s.vm h94 b79 := own_sfE BW93.ch E94 sf_b79_3
        have sf_b94 : Safe Z consts_1 s.vm h94 b94 := own_sfE BW93.ch E94 (Safe.new (Z := Z) (EL := consts_1) (vm := s.vm) (Nat.le_of_eq g94.symm))
        have Fb94_value : Fld Z h94 b94 "java/lang/String" "value" "[B" .null := D94 (Or.inr (wd49 hw)) (ty := (.array .byte)) (by decide)
        have Fb94_coder : Fld Z h94 b94 "java/lang/String" "coder" "B" (.int (0 : Int32)) := D94 (Or.inr (wd50 hw)) (ty := .byte) (by decide)
        refine o_dup X94 hx (hb hby d5_97) rfl rfl ?_
        refine o_aload X94 hx (hb hby d5_98) rfl rfl rfl ?_
        have fA100 : Arv Z h94 b79 k79 .char (2 : Int32) [(.int (nar .char ((p1 &&& (255 : Int32)).toUInt32.toUInt16.toUInt32.toInt32))), (.int (nar .char ((((p1.toUInt32 >>> ((8 : Int32) &&& 31).toUInt32).toInt32) &&& (255 : Int32)).toUInt32.toUInt16.toUInt32.toInt32)))] (.int (0 : Int32)) := (A93.ext E94)
        refine o_newStr X94 hx hZ hown (wd39 hw) (wd40 hw) (wd41 hw) (own_ws hw) (wd36 hw) e94 (by rw [hml]; rfl) (cs := [(nar .char ((p1 &&& (255 : Int32)).toUInt32.toUInt16.toUInt32.toInt32)), (nar .char ((((p1.toUInt32 >>> ((8 : Int32) &&& 31).toUInt32).toInt32) &&& (255 : Int32)).toUInt32.toUInt16.toUInt32.toInt32))]) n_b94 OE94 A94 Fb94_value Fb94_coder fA100 S_COMPACT_STRINGS hcs (n := 2) rfl rfl (by decide) (by decide) (c8S (own_c8n (own_mask _)) (c8S (own_c8n (own_mask _)) c80)) (rest := [(.ref b94)]) (W := 1) rfl (hb hby d5_100) (by decide) (by decide) (by decide) (by decide) (cells' := 3) (slots' := 8) rfl rfl rfl fun T100 h100 Lc100 t100 kb100 X100 e100 Nq100 Kq100 Eq100 Cq100 gq100 Vq100 (Aq100 : Arv Z h100 t100 kb100 .byte (2 : Int32) [(.int ((nar .char ((p1 &&& (255 : Int32)).toUInt32.toUInt16.toUInt32.toInt32)).toInt8.toInt32)), (.int ((nar .char ((((p1.toUInt32 >>> ((8 : Int32) &&& 31).toUInt32).toInt32) &&& (255 : Int32)).toUInt32.toUInt16.toUInt32.toInt32)).toInt8.toInt32))] (.int (0 : Int32))) => ?_
        have N100 := Fr.app N93 Nq100
        have s_t100_h0 : h0.size ≤ t100 := Nat.le_trans KE94_h0.1 gq100
        have n_t100 : n0 ≤ t100 := Nat.le_trans (OE94.1 ▸ OE94.2.1) gq100
        have KKq100_h0 : Keep h0 h100 [] := KE94_h0.trans Kq100 (allS (Or.inr s_b94_h0) all0)
        have OKq100 : Old Z n0 h100 := OE94.keep Kq100 (allS n_b94 all0)
        have BKq100 : HB Z consts_1 s s h0 h100 := BE94.keep Kq100 (slS sf_b94 sl0)
        have sf_b79_5 : Safe Z consts_1 s.vm h100 b79 := own_sfK BE94.ch Kq100 (slS sf_b94 sl0) sf_b79_4
        have sf_b94_2 : Safe Z consts_1 s.vm h100 b94 := own_sfK BE94.ch Kq100 (slS sf_b94 sl0) sf_b94
        have sf_t100 : Safe Z consts_1 s.vm h100 t100 := own_sfK BE94.ch Kq100 (slS sf_b94 sl0) (Safe.new (Z := Z) (EL := consts_1) (vm := s.vm) gq100)
        exact o_retH X100 hx hlk (t := (.object "java/lang/String")) hret rfl (Or.inr (Or.inr (Or.inr (Or.inr ⟨rfl, rfl, rfl⟩)))) (hb hby d5_103) (by decide) (by decide) e100 hZ (own_EW hw) BKq100 ⟨b94, rfl, N100, KKq100_h0, s_b94_h0, Eq100⟩
      ·
        refine o_icmpYes X0 hx (hb hby d5_75) (feq hc75).2 (by decide) (pc' := 104) (by decide) ?_
        refine o_iconst X0 hx (hb hby d5_104) (v := (3 : Int32)) rfl rfl ?_
        refine o_newPE (ad := "[C") (aty := .char) X0 hx hZ (wd38 hw) e0 (hb hby d5_105) (by decide) (cap := 3) (by decide) (by decide) (by decide) (by decide) (cells' := 1) (slots' := 3) rfl rfl rfl (by decide) fun T105 h105 k105 b105 g105 X105 e105 E105 A105 Ex105 => ?_
        have s_b105_h0 : h0.size ≤ b105 := Nat.le_trans KK0.1 (Nat.le_of_eq g105.symm)
        have n_b105 : n0 ≤ b105 := Nat.le_trans (O0.1 ▸ O0.2.1) (Nat.le_of_eq g105.symm)
        have KE105_h0 : Keep h0 h105 [] := KK0.ext E105
        have OE105 : Old Z n0 h105 := O0.ext E105
        have BE105 : HB Z consts_1 s s h0 h105 := B0.ext E105
        have sf_b105 : Safe Z consts_1 s.vm h105 b105 := own_sfE B0.ch E105 (Safe.new (Z := Z) (EL := consts_1) (vm := s.vm) (Nat.le_of_eq g105.symm))
        have A_b105 : Arv Z h105 b105 k105 .char (3 : Int32) [(.int (0 : Int32)), (.int (0 : Int32)), (.int (0 : Int32))] (.int (0 : Int32)) := (Arv.new A105 (by decide)).pad (pad_rep [] (.int (0 : Int32)) 3)
        refine o_astore X105 hx (hb hby d5_107) rfl (L' := #[.val (.int p1), .val (.int p2), .val (.int (p2 &&& (3 : Int32))), .val (.int ((p1 &&& (255 : Int32)).toUInt32.toUInt16.toUInt32.toInt32)), .val (.int ((((p1.toUInt32 >>> ((8 : Int32) &&& 31).toUInt32).toInt32) &&& (255 : Int32)).toUInt32.toUInt16.toUInt32.toInt32)), .val (.int ((((p1.toUInt32 >>> ((16 : Int32) &&& 31).toUInt32).toInt32) &&& (255 : Int32)).toUInt32.toUInt16.toUInt32.toInt32)), .val (.ref b105)]) rfl rfl ?_
        refine o_aload X105 hx (hb hby d5_109) rfl rfl rfl ?_
        refine o_iconst X105 hx (hb hby d5_111) (v := (0 : Int32)) rfl rfl ?_
        refine o_iloadN X105 hx (hb hby d5_112) rfl rfl ?_
        refine o_stC X105 hx hZ e105 A_b105 (i := 0) ⟨by decide, by decide⟩ (by decide) (Nat.le_of_ble_eq_true rfl) (hb hby d5_113) rfl fun T113 h113 X113 e113 W113 (A113 : Arv Z h113 b105 k105 .char (3 : Int32) [(.int (nar .char ((p1 &&& (255 : Int32)).toUInt32.toUInt16.toUInt32.toInt32))), (.int (0 : Int32)), (.int (0 : Int32))] (.int (0 : Int32))) => ?_
        have N113 := Fr.snoc X113 N0 n_b105
        have KW113_h0 : Keep h0 h113 [] := KE105_h0.wr W113 (Or.inr s_b105_h0)
        have OW113 : Old Z n0 h113 := OE105.wr W113 n_b105
        have BW113 : HB Z consts_1 s s h0 h113 := BE105.wr W113 sf_b105
        have sf_b105_2 : Safe Z consts_1 s.vm h113 b105 := own_sfW BE105.ch W113 sf_b105 sf_b105
        refine o_aload X113 hx (hb hby d5_114) rfl rfl rfl ?_
        refine o_iconst X113 hx (hb hby d5_116) (v := (1 : Int32)) rfl rfl ?_
        refine o_iload X113 hx (hb hby d5_117) rfl rfl ?_
        refine o_stC X113 hx hZ e113 A113 (i := 1) ⟨by decide, by decide⟩ (by decide) (Nat.le_of_ble_eq_true rfl) (hb hby d5_119) rfl fun T119 h119 X119 e119 W119 (A119 : Arv Z h119 b105 k105 .char (3 : Int32) [(.int (nar .char ((p1 &&& (255 : Int32)).toUInt32.toUInt16.toUInt32.toInt32))), (.int (nar .char ((((p1.toUInt32 >>> ((8 : Int32) &&& 31).toUInt32).toInt32) &&& (255 : Int32)).toUInt32.toUInt16.toUInt32.toInt32))), (.int (0 : Int32))] (.int (0 : Int32))) => ?_
        have N119 := Fr.snoc X119 N113 n_b105
        have KW119_h0 : Keep h0 h119 [] := KW113_h0.wr W119 (Or.inr s_b105_h0)
        have OW119 : Old Z n0 h119 := OW113.wr W119 n_b105
        have BW119 : HB Z consts_1 s s h0 h119 := BW113.wr W119 sf_b105_2
        have sf_b105_3 : Safe Z consts_1 s.vm h119 b105 := own_sfW BW113.ch W119 sf_b105_2 sf_b105_2
        refine o_aload X119 hx (hb hby d5_120) rfl rfl rfl ?_
        refine o_iconst X119 hx (hb hby d5_122) (v := (2 : Int32)) rfl rfl ?_
        refine o_iload X119 hx (hb hby d5_123) rfl rfl ?_
        refine o_stC X119 hx hZ e119 A119 (i := 2) ⟨by decide, by decide⟩ (by decide) (Nat.le_of_ble_eq_true rfl) (hb hby d5_125) rfl fun T125 h125 X125 e125 W125 (A125 : Arv Z h125 b105 k105 .char (3 : Int32) [(.int (nar .char ((p1 &&& (255 : Int32)).toUInt32.toUInt16.toUInt32.toInt32))), (.int (nar .char ((((p1.toUInt32 >>> ((8 : Int32) &&& 31).toUInt32).toInt32) &&& (255 : Int32)).toUInt32.toUInt16.toUInt32.toInt32))), (.int (nar .char ((((p1.toUInt32 >>> ((16 : Int32) &&& 31).toUInt32).toInt32) &&& (255 : Int32)).toUInt32.toUInt16.toUInt32.toInt32)))] (.int (0 : Int32))) => ?_
        have N125 := Fr.snoc X125 N119 n_b105
        have KW125_h0 : Keep h0 h125 [] := KW119_h0.wr W125 (Or.inr s_b105_h0)
        have OW125 : Old Z n0 h125 := OW119.wr W125 n_b105
        have BW125 : HB Z consts_1 s s h0 h125 := BW119.wr W125 sf_b105_3
        have sf_b105_4 : Safe Z consts_1 s.vm h125 b105 := own_sfW BW119.ch W125 sf_b105_3 sf_b105_3
        refine o_new X125 hx hZ hown (wd35 hw) (wd36 hw) (wd37 hw) e125 (hb hby d5_126) (by decide) (by decide) (cells' := 2) (slots' := 7) rfl rfl rfl fun T126 h126 b126 g126 X126 e126 E126 A126 D126 => ?_
        have s_b126_h0 : h0.size ≤ b126 := Nat.le_trans KW125_h0.1 (Nat.le_of_eq g126.symm)
        have n_b126 : n0 ≤ b126 := Nat.le_trans (OW125.1 ▸ OW125.2.1) (Nat.le_of_eq g126.symm)
        have KE126_h0 : Keep h0 h126 [] := KW125_h0.ext E126
        have OE126 : Old Z n0 h126 := OW125.ext E126
        have BE126 : HB Z consts_1 s s h0 h126 := BW125.ext E126
        have sf_b105_5 : Safe Z consts_1 s.vm h126 b105 := own_sfE BW125.ch E126 sf_b105_4
        have sf_b126 : Safe Z consts_1 s.vm h126 b126 := own_sfE BW125.ch E126 (Safe.new (Z := Z) (EL := consts_1) (vm := s.vm) (Nat.le_of_eq g126.symm))
        have Fb126_value : Fld Z h126 b126 "java/lang/String" "value" "[B" .null := D126 (Or.inr (wd49 hw)) (ty := (.array .byte)) (by decide)
        have Fb126_coder : Fld Z h126 b126 "java/lang/String" "coder" "B" (.int (0 : Int32)) := D126 (Or.inr (wd50 hw)) (ty := .byte) (by decide)
        refine o_dup X126 hx (hb hby d5_129) rfl rfl ?_
        refine o_aload X126 hx (hb hby d5_130) rfl rfl rfl ?_
        have fA132 : Arv Z h126 b105 k105 .char (3 : Int32) [(.int (nar .char ((p1 &&& (255 : Int32)).toUInt32.toUInt16.toUInt32.toInt32))), (.int (nar .char ((((p1.toUInt32 >>> ((8 : Int32) &&& 31).toUInt32).toInt32) &&& (255 : Int32)).toUInt32.toUInt16.toUInt32.toInt32))), (.int (nar .char ((((p1.toUInt32 >>> ((16 : Int32) &&& 31).toUInt32).toInt32) &&& (255 : Int32)).toUInt32.toUInt16.toUInt32.toInt32)))] (.int (0 : Int32)) := (A125.ext E126)
        refine o_newStr X126 hx hZ hown (wd39 hw) (wd40 hw) (wd41 hw) (own_ws hw) (wd36 hw) e126 (by rw [hml]; rfl) (cs := [(nar .char ((p1 &&& (255 : Int32)).toUInt32.toUInt16.toUInt32.toInt32)), (nar .char ((((p1.toUInt32 >>> ((8 : Int32) &&& 31).toUInt32).toInt32) &&& (255 : Int32)).toUInt32.toUInt16.toUInt32.toInt32)), (nar .char ((((p1.toUInt32 >>> ((16 : Int32) &&& 31).toUInt32).toInt32) &&& (255 : Int32)).toUInt32.toUInt16.toUInt32.toInt32))]) n_b126 OE126 A126 Fb126_value Fb126_coder fA132 S_COMPACT_STRINGS hcs (n := 3) rfl rfl (by decide) (by decide) (c8S (own_c8n (own_mask _)) (c8S (own_c8n (own_mask _)) (c8S (own_c8n (own_mask _)) c80))) (rest := [(.ref b126)]) (W := 1) rfl (hb hby d5_132) (by decide) (by decide) (by decide) (by decide) (cells' := 3) (slots' := 10) rfl rfl rfl fun T132 h132 Lc132 t132 kb132 X132 e132 Nq132 Kq132 Eq132 Cq132 gq132 Vq132 (Aq132 : Arv Z h132 t132 kb132 .byte (3 : Int32) [(.int ((nar .char ((p1 &&& (255 : Int32)).toUInt32.toUInt16.toUInt32.toInt32)).toInt8.toInt32)), (.int ((nar .char ((((p1.toUInt32 >>> ((8 : Int32) &&& 31).toUInt32).toInt32) &&& (255 : Int32)).toUInt32.toUInt16.toUInt32.toInt32)).toInt8.toInt32)), (.int ((nar .char ((((p1.toUInt32 >>> ((16 : Int32) &&& 31).toUInt32).toInt32) &&& (255 : Int32)).toUInt32.toUInt16.toUInt32.toInt32)).toInt8.toInt32))] (.int (0 : Int32))) => ?_
        have N132 := Fr.app N125 Nq132
        have s_t132_h0 : h0.size ≤ t132 := Nat.le_trans KE126_h0.1 gq132
        have n_t132 : n0 ≤ t132 := Nat.le_trans (OE126.1 ▸ OE126.2.1) gq132
        have KKq132_h0 : Keep h0 h132 [] := KE126_h0.trans Kq132 (allS (Or.inr s_b126_h0) all0)
        have OKq132 : Old Z n0 h132 := OE126.keep Kq132 (allS n_b126 all0)
        have BKq132 : HB Z consts_1 s s h0 h132 := BE126.keep Kq132 (slS sf_b126 sl0)
        have sf_b105_6 : Safe Z consts_1 s.vm h132 b105 := own_sfK BE126.ch Kq132 (slS sf_b126 sl0) sf_b105_5
        have sf_b126_2 : Safe Z consts_1 s.vm h132 b126 := own_sfK BE126.ch Kq132 (slS sf_b126 sl0) sf_b126
        have sf_t132 : Safe Z consts_1 s.vm h132 t132 := own_sfK BE126.ch Kq132 (slS sf_b126 sl0) (Safe.new (Z := Z) (EL := consts_1) (vm := s.vm) gq132)
        exact o_retH X132 hx hlk (t := (.object "java/lang/String")) hret rfl (Or.inr (Or.inr (Or.inr (Or.inr ⟨rfl, rfl, rfl⟩)))) (hb hby d5_135) (by decide) (by decide) e132 hZ (own_EW hw) BKq132 ⟨b126, rfl, N132, KKq132_h0, s_b126_h0, Eq132⟩
def Q3 (Z : State) (a1 : Addr) (h0 : Heap) (n0 : Nat) (v : Option Value) (h : Heap) (L : List Loc) : Prop := v = none ∧ Fr n0 L ∧ h = h0
set_option maxRecDepth 65536 in
set_option maxHeartbeats 40000000 in
theorem rm3 (l : Launch) (Z : State) (a0 : Array Value) (hw : ∀ d ∈ tables_1, d.before a0 Z = true) (a1 : Addr) (h0 : Heap) (n0 : Nat) (O0 : Old Z n0 h0) :
    Met l Z (⟨"java/util/AbstractCollection", "<init>", "()V"⟩ : MethodName) jdk_22_method_1_code 1 none ({ frames := 1, cells := 0, slots := 0, locals := 12 } : Room) [] #[(.ref a1)] h0 (Q3 Z a1 h0 n0) := by
  refine met_of (L0 := #[.val (.ref a1)]) (plainFor_of_name pn3) (fun m => by first | (simp [entryFrame, mkF, argsToLocals, Value.category]; done) | rfl) ?_
  intro p e s m below meth c T0 hx hby hml hown hnm hret hlk hZ X0 e0
  have N0 := Fr.nil n0
  refine o_aloadN X0 hx (hb hby d3_0) rfl rfl rfl ?_
  refine o_initO X0 hx hZ hown (wd18 hw) (wd19 hw) (wd20 hw) e0 (by rw [hml]; rfl) (hb hby d3_1) (by decide) (W := 0) rfl (by decide) rfl fun T1 X1 e1 => ?_
  exact o_retV X1 hx hlk hret (hb hby d3_4) (by decide) (by decide) e1 ⟨rfl, N0, rfl⟩
def Q2 (Z : State) (a1 : Addr) (h0 : Heap) (n0 : Nat) (v : Option Value) (h : Heap) (L : List Loc) : Prop := v = none ∧ Fr n0 L ∧ Keep h0 h [a1] ∧ Exa Z h a1 "java/util/ArrayList" ∧ Fld Z h a1 "java/util/ArrayList" "elementData" "[Ljava/lang/Object;" .null ∧ Fld Z h a1 "java/util/ArrayList" "size" "I" (.int (0 : Int32)) ∧ Fld Z h a1 "java/util/AbstractList" "modCount" "I" (.int (0 : Int32))
set_option maxRecDepth 65536 in
set_option maxHeartbeats 40000000 in
theorem rm2 (l : Launch) (Z : State) (a0 : Array Value) (hw : ∀ d ∈ tables_1, d.before a0 Z = true) (a1 : Addr) (h0 : Heap) (n0 : Nat) (O0 : Old Z n0 h0) (E_a1 : Exa Z h0 a1 "java/util/ArrayList") (F_a1_elementData : Fld Z h0 a1 "java/util/ArrayList" "elementData" "[Ljava/lang/Object;" .null) (F_a1_size : Fld Z h0 a1 "java/util/ArrayList" "size" "I" (.int (0 : Int32))) (F_a1_modCount : Fld Z h0 a1 "java/util/AbstractList" "modCount" "I" (.int (0 : Int32))) (na1 : n0 ≤ a1) :
    Met l Z (⟨"java/util/AbstractList", "<init>", "()V"⟩ : MethodName) jdk_39_method_1_code 1 none ({ frames := 2, cells := 0, slots := 0, locals := 24 } : Room) [] #[(.ref a1)] h0 (Q2 Z a1 h0 n0) := by
  refine met_of (L0 := #[.val (.ref a1)]) (plainFor_of_name pn4) (fun m => by first | (simp [entryFrame, mkF, argsToLocals, Value.category]; done) | rfl) ?_
  intro p e s m below meth c T0 hx hby hml hown hnm hret hlk hZ X0 e0
  have N0 := Fr.nil n0
  have KK0 : Keep h0 h0 [a1] := Keep.refl _ _
  refine o_aloadN X0 hx (hb hby d2_0) rfl rfl rfl ?_
  refine o_special X0 hx hZ rfl rfl hown (wd12 hw) (wd13 hw) (by decide) (a := a1) (rm3 l Z a0 hw a1 h0 n0 O0 ) (wd17 hw) (wd16 hw) e0 (by rw [hml]; rfl) (argsL := []) (rest := []) (W := 0) pd2 rfl rfl rfl rfl (hb hby d2_1) (by decide) (by decide) (by decide) (by decide) (cells' := 0) (slots' := 0) rfl rfl rfl fun v1 T1 h1 Lc1 X1 e1 hq1 => ?_
  obtain ⟨rfl, N1q, K1⟩ := hq1
  have N1 := Fr.app N0 N1q
  have e1_2 : T1.heap = h0 := e1.trans K1
  show Goes p.tables e below (Ends s (Q2 Z a1 h0 n0) ({ frames := 2, cells := 0, slots := 0, locals := 24 } : Room).cells ({ frames := 2, cells := 0, slots := 0, locals := 24 } : Room).slots) (T1.setTop (mkF m 4 #[.val (.ref a1)] []))
  refine o_aloadN X1 hx (hb hby d2_4) rfl rfl rfl ?_
  refine o_iconst X1 hx (hb hby d2_5) (v := (0 : Int32)) rfl rfl ?_
  refine o_putF X1 hx hZ hown (host := "") (Or.inl (wd21 hw)) Via.refl e1_2 F_a1_modCount E_a1 (Or.inl (wd22 hw)) (wd1 hw) (ty := .int) (by decide) rfl rfl (hb hby d2_6) rfl fun T6 h6 X6 e6 W6 => ?_
  have F6 : Fld Z h6 a1 "java/util/AbstractList" "modCount" "I" (.int (0 : Int32)) := F_a1_modCount.same W6
  have N6 := Fr.snoc X6 N1 na1
  have KW6_h0 : Keep h0 h6 [a1] := KK0.wr W6 (Or.inl (List.mem_of_getElem? (i := 0) rfl))
  have OW6 : Old Z n0 h6 := O0.wr W6 na1
  have fE9 : Exa Z h6 a1 "java/util/ArrayList" := (E_a1.wr W6)
  have fF9 : Fld Z h6 a1 "java/util/ArrayList" "elementData" "[Ljava/lang/Object;" .null := (F_a1_elementData.other W6 (Or.inr (slot_ne (Z := Z) (a0 := a0) (Or.inl (wd25 hw)) (Or.inl (wd22 hw)) (by decide) (t := (.array (.object "java/lang/Object"))) (t' := .int) (by decide) (by decide))))
  have fF9_2 : Fld Z h6 a1 "java/util/ArrayList" "size" "I" (.int (0 : Int32)) := (F_a1_size.other W6 (Or.inr (slot_ne (Z := Z) (a0 := a0) (Or.inl (wd86 hw)) (Or.inl (wd22 hw)) (by decide) (t := .int) (t' := .int) (by decide) (by decide))))
  exact o_retV X6 hx hlk hret (hb hby d2_9) (by decide) (by decide) e6 ⟨rfl, N6, KW6_h0, fE9, fF9, fF9_2, F6⟩
def Q1 (Z : State) (a1 : Addr) (de : Addr) (kd : ClassId) (h0 : Heap) (n0 : Nat) (v : Option Value) (h : Heap) (L : List Loc) : Prop := v = none ∧ Fr n0 L ∧ Keep h0 h [a1] ∧ Exa Z h a1 "java/util/ArrayList" ∧ Fld Z h a1 "java/util/ArrayList" "elementData" "[Ljava/lang/Object;" (.ref de) ∧ Fld Z h a1 "java/util/ArrayList" "size" "I" (.int (0 : Int32)) ∧ Fld Z h a1 "java/util/AbstractList" "modCount" "I" (.int (0 : Int32))
set_option maxRecDepth 65536 in
set_option maxHeartbeats 40000000 in
theorem rm1 (l : Launch) (Z : State) (a0 : Array Value) (hw : ∀ d ∈ tables_1, d.before a0 Z = true) (a1 : Addr) (de : Addr) (kd : ClassId) (h0 : Heap) (n0 : Nat) (O0 : Old Z n0 h0) (E_a1 : Exa Z h0 a1 "java/util/ArrayList") (F_a1_elementData : Fld Z h0 a1 "java/util/ArrayList" "elementData" "[Ljava/lang/Object;" .null) (F_a1_size : Fld Z h0 a1 "java/util/ArrayList" "size" "I" (.int (0 : Int32))) (F_a1_modCount : Fld Z h0 a1 "java/util/AbstractList" "modCount" "I" (.int (0 : Int32))) (S_DEFAULTCAPACITY_EMPTY_ELEMENTDATA : Sta Z Z.heap "java/util/ArrayList" "DEFAULTCAPACITY_EMPTY_ELEMENTDATA" "[Ljava/lang/Object;" (.ref de)) (E_de : Exa Z h0 de "[Ljava/lang/Object;") (A_de : Arv Z h0 de kd (.object "java/lang/Object") (0 : Int32) [] .null) (na1 : n0 ≤ a1) :
    Met l Z (⟨"java/util/ArrayList", "<init>", "()V"⟩ : MethodName) jdk_38_method_2_code 1 none ({ frames := 3, cells := 0, slots := 0, locals := 36 } : Room) [] #[(.ref a1)] h0 (Q1 Z a1 de kd h0 n0) := by
  refine met_of (L0 := #[.val (.ref a1)]) (plainFor_of_name pn5) (fun m => by first | (simp [entryFrame, mkF, argsToLocals, Value.category]; done) | rfl) ?_
  intro p e s m below meth c T0 hx hby hml hown hnm hret hlk hZ X0 e0
  have N0 := Fr.nil n0
  have KK0 : Keep h0 h0 [a1] := Keep.refl _ _
  refine o_aloadN X0 hx (hb hby d1_0) rfl rfl rfl ?_
  refine o_special X0 hx hZ rfl rfl hown (wd6 hw) (wd7 hw) (by decide) (a := a1) (rm2 l Z a0 hw a1 h0 n0 O0 E_a1 F_a1_elementData F_a1_size F_a1_modCount na1) (wd11 hw) (wd10 hw) e0 (by rw [hml]; rfl) (argsL := []) (rest := []) (W := 0) pd2 rfl rfl rfl rfl (hb hby d1_1) (by decide) (by decide) (by decide) (by decide) (cells' := 0) (slots' := 0) rfl rfl rfl fun v1 T1 h1 Lc1 X1 e1 hq1 => ?_
  obtain ⟨rfl, N1q, K1, qE_1, qF_1, qF_1_2, qF_1_3⟩ := hq1
  have N1 := Fr.app N0 N1q
  have KK1_h0 : Keep h0 h1 [a1] := KK0.trans K1 (allS (Or.inl (List.mem_of_getElem? (i := 0) rfl)) all0)
  have OK1 : Old Z n0 h1 := O0.keep K1 (allS na1 all0)
  show Goes p.tables e below (Ends s (Q1 Z a1 de kd h0 n0) ({ frames := 3, cells := 0, slots := 0, locals := 36 } : Room).cells ({ frames := 3, cells := 0, slots := 0, locals := 36 } : Room).slots) (T1.setTop (mkF m 4 #[.val (.ref a1)] []))
  refine o_aloadN X1 hx (hb hby d1_4) rfl rfl rfl ?_
  refine o_getS X1 hx hZ hown (host := "") (Or.inl (wd23 hw)) Via.refl e1 (Sta.ext OK1.2 S_DEFAULTCAPACITY_EMPTY_ELEMENTDATA) (hb hby d1_5) rfl fun T5 X5 e5 => ?_
  refine o_putF X5 hx hZ hown (host := "") (Or.inl (wd24 hw)) Via.refl e5 qF_1 qE_1 (Or.inl (wd25 hw)) (wd1 hw) (ty := (.array (.object "java/lang/Object"))) (by decide) rfl rfl (hb hby d1_8) rfl fun T8 h8 X8 e8 W8 => ?_
  have F8 : Fld Z h8 a1 "java/util/ArrayList" "elementData" "[Ljava/lang/Object;" (.ref de) := qF_1.same W8
  have N8 := Fr.snoc X8 N1 na1
  have KW8_h0 : Keep h0 h8 [a1] := KK1_h0.wr W8 (Or.inl (List.mem_of_getElem? (i := 0) rfl))
  have OW8 : Old Z n0 h8 := OK1.wr W8 na1
  have fE11 : Exa Z h8 a1 "java/util/ArrayList" := (qE_1.wr W8)
  have fF11 : Fld Z h8 a1 "java/util/ArrayList" "size" "I" (.int (0 : Int32)) := (qF_1_2.other W8 (Or.inr (slot_ne (Z := Z) (a0 := a0) (Or.inl (wd86 hw)) (Or.inl (wd25 hw)) (by decide) (t := .int) (t' := (.array (.object "java/lang/Object"))) (by decide) (by decide))))
  have fF11_2 : Fld Z h8 a1 "java/util/AbstractList" "modCount" "I" (.int (0 : Int32)) := (qF_1_3.other W8 (Or.inr (slot_ne (Z := Z) (a0 := a0) (Or.inl (wd22 hw)) (Or.inl (wd25 hw)) (by decide) (t := .int) (t' := (.array (.object "java/lang/Object"))) (by decide) (by decide))))
  exact o_retV X8 hx hlk hret (hb hby d1_11) (by decide) (by decide) e8 ⟨rfl, N8, KW8_h0, fE11, F8, fF11, fF11_2⟩
def Q27 (Z : State)  (h0 : Heap) (n0 : Nat) (v : Option Value) (h : Heap) (L : List Loc) : Prop := v = some (.int (10 : Int32)) ∧ Fr n0 L ∧ h = h0
set_option maxRecDepth 65536 in
set_option maxHeartbeats 40000000 in
theorem rm27 (l : Launch) (Z : State) (a0 : Array Value) (hw : ∀ d ∈ tables_1, d.before a0 Z = true)  (h0 : Heap) (n0 : Nat) (O0 : Old Z n0 h0) :
    Met l Z (⟨"java/lang/Math", "max", "(II)I"⟩ : MethodName) jdk_29_method_65_code 2 (some .int) ({ frames := 0, cells := 0, slots := 0, locals := 0 } : Room) [] #[(.int (10 : Int32)), (.int (1 : Int32))] h0 (Q27 Z  h0 n0) := by
  refine met_of (L0 := #[.val (.int (10 : Int32)), .val (.int (1 : Int32))]) (Jvm.Free.JP.mathPlain rfl (by decide +kernel)) (fun m => by first | (simp [entryFrame, mkF, argsToLocals, Value.category]; done) | rfl) ?_
  intro p e s m below meth c T0 hx hby hml hown hnm hret hlk hZ X0 e0
  have N0 := Fr.nil n0
  refine o_iloadN X0 hx (hb hby d27_0) rfl rfl ?_
  refine o_iloadN X0 hx (hb hby d27_1) rfl rfl ?_
  refine o_icmpNo X0 hx (hb hby d27_2) (flt (by decide)).1 rfl ?_
  refine o_iloadN X0 hx (hb hby d27_5) rfl rfl ?_
  refine o_goto X0 hx (hb hby d27_6) (by decide) (pc' := 10) (by decide) ?_
  exact o_ret X0 hx hlk (t := .int) hret rfl (Or.inl ⟨rfl, by decide, _, rfl⟩) (hb hby d27_10) (by decide) (by decide) e0 ⟨rfl, N0, rfl⟩
def Q26 (Z : State) (a1 : Addr) (mc : Int32) (de : Addr) (kd : ClassId) (h0 : Heap) (n0 : Nat) (v : Option Value) (h : Heap) (L : List Loc) : Prop := ∃ b : Addr, ∃ k : ClassId, v = some (.ref b) ∧ Fr n0 L ∧ Keep h0 h [a1] ∧ (h0.size ≤ b) ∧ Exa Z h a1 "java/util/ArrayList" ∧ Exa Z h b "[Ljava/lang/Object;" ∧ Fld Z h a1 "java/util/ArrayList" "elementData" "[Ljava/lang/Object;" (.ref b) ∧ Fld Z h a1 "java/util/ArrayList" "size" "I" (.int (0 : Int32)) ∧ Fld Z h a1 "java/util/AbstractList" "modCount" "I" (.int mc) ∧ Arv Z h b k (.object "java/lang/Object") (10 : Int32) [.null, .null, .null, .null, .null, .null, .null, .null, .null, .null] .null ∧ (Ovr Z k "java/lang/Object")
set_option maxRecDepth 65536 in
set_option maxHeartbeats 40000000 in
theorem rm26 (l : Launch) (Z : State) (a0 : Array Value) (hw : ∀ d ∈ tables_1, d.before a0 Z = true) (a1 : Addr) (mc : Int32) (de : Addr) (kd : ClassId) (h0 : Heap) (n0 : Nat) (O0 : Old Z n0 h0) (E_a1 : Exa Z h0 a1 "java/util/ArrayList") (F_a1_elementData : Fld Z h0 a1 "java/util/ArrayList" "elementData" "[Ljava/lang/Object;" (.ref de)) (F_a1_size : Fld Z h0 a1 "java/util/ArrayList" "size" "I" (.int (0 : Int32))) (F_a1_modCount : Fld Z h0 a1 "java/util/AbstractList" "modCount" "I" (.int mc)) (S_DEFAULTCAPACITY_EMPTY_ELEMENTDATA : Sta Z Z.heap "java/util/ArrayList" "DEFAULTCAPACITY_EMPTY_ELEMENTDATA" "[Ljava/lang/Object;" (.ref de)) (E_de : Exa Z h0 de "[Ljava/lang/Object;") (A_de : Arv Z h0 de kd (.object "java/lang/Object") (0 : Int32) [] .null) (na1 : n0 ≤ a1) :
    Met l Z (⟨"java/util/ArrayList", "grow", "(I)[Ljava/lang/Object;"⟩ : MethodName) jdk_38_method_6_code 4 (some (.array (.object "java/lang/Object"))) ({ frames := 1, cells := 1, slots := 10, locals := 14 } : Room) [] #[(.ref a1), (.int (1 : Int32))] h0 (Q26 Z a1 mc de kd h0 n0) := by
  refine met_of (L0 := #[.val (.ref a1), .val (.int (1 : Int32)), .unset, .unset]) (plainFor_of_name pn5) (fun m => by first | (simp [entryFrame, mkF, argsToLocals, Value.category]; done) | rfl) ?_
  intro p e s m below meth c T0 hx hby hml hown hnm hret hlk hZ X0 e0
  have N0 := Fr.nil n0
  have KK0 : Keep h0 h0 [a1] := Keep.refl _ _
  refine o_aloadN X0 hx (hb hby d26_0) rfl rfl rfl ?_
  refine o_getF X0 hx hZ hown (host := "") (Or.inl (wd24 hw)) Via.refl e0 F_a1_elementData (hb hby d26_1) rfl fun T1 X1 e1 => ?_
  refine o_alen X1 hx hZ e1 A_de (hb hby d26_4) rfl ?_
  refine o_istoreN X1 hx (hb hby d26_5) (L' := #[.val (.ref a1), .val (.int (1 : Int32)), .val (.int (0 : Int32)), .unset]) rfl rfl ?_
  refine o_iloadN X1 hx (hb hby d26_6) rfl rfl ?_
  refine o_ifNo X1 hx (hb hby d26_7) ((if0 _ _).trans (flt (by decide)).2.2.1) rfl ?_
  refine o_aloadN X1 hx (hb hby d26_10) rfl rfl rfl ?_
  refine o_getF X1 hx hZ hown (host := "") (Or.inl (wd24 hw)) Via.refl e1 F_a1_elementData (hb hby d26_11) rfl fun T11 X11 e11 => ?_
  refine o_getS X11 hx hZ hown (host := "") (Or.inl (wd23 hw)) Via.refl e11 (Sta.ext O0.2 S_DEFAULTCAPACITY_EMPTY_ELEMENTDATA) (hb hby d26_14) rfl fun T14 X14 e14 => ?_
  refine o_acmp X14 hx (hb hby d26_17) rfl rfl (same := true) (decide_eq_true rfl) (by decide) (pc' := 45) (by decide) ?_
  refine o_aloadN X14 hx (hb hby d26_45) rfl rfl rfl ?_
  refine o_bipush X14 hx (hb hby d26_46) (v := (10 : Int32)) rfl rfl ?_
  refine o_iloadN X14 hx (hb hby d26_48) rfl rfl ?_
  refine o_static X14 hx hZ hown (wd177 hw) (wd178 hw) (by decide) (rm27 l Z a0 hw  h0 n0 O0 ) (wd180 hw) (wd179 hw) e14 (by rw [hml]; rfl) (argsL := [(.int (10 : Int32)), (.int (1 : Int32))]) (rest := [(.ref a1)]) (W := 1) pd3 rfl rfl rfl rfl (hb hby d26_49) (by decide) (by decide) (by decide) (by decide) (cells' := 0) (slots' := 0) rfl rfl rfl fun v49 T49 h49 Lc49 X49 e49 hq49 => ?_
  obtain ⟨rfl, N49q, K49⟩ := hq49
  have N49 := Fr.app N0 N49q
  have e49_2 : T49.heap = h0 := e49.trans K49
  show Goes p.tables e below (Ends s (Q26 Z a1 mc de kd h0 n0) ({ frames := 1, cells := 1, slots := 10, locals := 14 } : Room).cells ({ frames := 1, cells := 1, slots := 10, locals := 14 } : Room).slots) (T49.setTop (mkF m 52 #[.val (.ref a1), .val (.int (1 : Int32)), .val (.int (0 : Int32)), .unset] [(.int (10 : Int32)), (.ref a1)]))
  refine o_newRE (ad := "[Ljava/lang/Object;") X49 hx hZ hown (wd181 hw) (wd182 hw) e49_2 (hb hby d26_52) (by decide) (cap := 10) (by decide) (by decide) (by decide) (by decide) (cells' := 1) (slots' := 10) rfl rfl rfl rfl fun T52 h52 k52 b52 g52 X52 e52 E52 A52 Ex52 Ov52 => ?_
  have s_b52_h0 : h0.size ≤ b52 := Nat.le_trans KK0.1 (Nat.le_of_eq g52.symm)
  have n_b52 : n0 ≤ b52 := Nat.le_trans (O0.1 ▸ O0.2.1) (Nat.le_of_eq g52.symm)
  have KE52_h0 : Keep h0 h52 [a1] := KK0.ext E52
  have OE52 : Old Z n0 h52 := O0.ext E52
  have A_b52 : Arv Z h52 b52 k52 (.object "java/lang/Object") (10 : Int32) [.null, .null, .null, .null, .null, .null, .null, .null, .null, .null] .null := (Arv.new A52 (by decide)).pad (pad_rep [] .null 10)
  refine o_dupX1 X52 hx (hb hby d26_55) rfl rfl rfl ?_
  have fF56 : Fld Z h52 a1 "java/util/ArrayList" "elementData" "[Ljava/lang/Object;" (.ref de) := (F_a1_elementData.ext E52)
  have fE56 : Exa Z h52 a1 "java/util/ArrayList" := (E_a1.ext E52)
  refine o_putF X52 hx hZ hown (host := "") (Or.inl (wd24 hw)) Via.refl e52 fF56 fE56 (Or.inl (wd25 hw)) (wd1 hw) (ty := (.array (.object "java/lang/Object"))) (by decide) rfl rfl (hb hby d26_56) rfl fun T56 h56 X56 e56 W56 => ?_
  have F56 : Fld Z h56 a1 "java/util/ArrayList" "elementData" "[Ljava/lang/Object;" (.ref b52) := fF56.same W56
  have N56 := Fr.snoc X56 N49 na1
  have KW56_h0 : Keep h0 h56 [a1] := KE52_h0.wr W56 (Or.inl (List.mem_of_getElem? (i := 0) rfl))
  have OW56 : Old Z n0 h56 := OE52.wr W56 na1
  have fE59 : Exa Z h56 a1 "java/util/ArrayList" := (fE56.wr W56)
  have fE59_2 : Exa Z h56 b52 "[Ljava/lang/Object;" := (Ex52.wr W56)
  have fF59 : Fld Z h56 a1 "java/util/ArrayList" "size" "I" (.int (0 : Int32)) := ((F_a1_size.ext E52).other W56 (Or.inr (slot_ne (Z := Z) (a0 := a0) (Or.inl (wd86 hw)) (Or.inl (wd25 hw)) (by decide) (t := .int) (t' := (.array (.object "java/lang/Object"))) (by decide) (by decide))))
  have fF59_2 : Fld Z h56 a1 "java/util/AbstractList" "modCount" "I" (.int mc) := ((F_a1_modCount.ext E52).other W56 (Or.inr (slot_ne (Z := Z) (a0 := a0) (Or.inl (wd22 hw)) (Or.inl (wd25 hw)) (by decide) (t := .int) (t' := (.array (.object "java/lang/Object"))) (by decide) (by decide))))
  have fA59 : Arv Z h56 b52 k52 (.object "java/lang/Object") (10 : Int32) [.null, .null, .null, .null, .null, .null, .null, .null, .null, .null] .null := (A_b52.other W56 (Ne.symm (Nat.ne_of_lt (Nat.lt_of_lt_of_le E_a1.lt (Nat.le_of_eq g52.symm)))))
  exact o_ret X56 hx hlk (t := (.array (.object "java/lang/Object"))) hret rfl (Or.inr (Or.inr (Or.inr (Or.inr ⟨rfl, rfl, rfl⟩)))) (hb hby d26_59) (by decide) (by decide) e56 ⟨b52, k52, rfl, N56, KW56_h0, s_b52_h0, fE59, fE59_2, F56, fF59, fF59_2, fA59, Ov52⟩
def Q25 (Z : State) (a1 : Addr) (mc : Int32) (de : Addr) (kd : ClassId) (h0 : Heap) (n0 : Nat) (v : Option Value) (h : Heap) (L : List Loc) : Prop := ∃ b : Addr, ∃ k : ClassId, v = some (.ref b) ∧ Fr n0 L ∧ Keep h0 h [a1] ∧ (h0.size ≤ b) ∧ Exa Z h a1 "java/util/ArrayList" ∧ Exa Z h b "[Ljava/lang/Object;" ∧ Fld Z h a1 "java/util/ArrayList" "elementData" "[Ljava/lang/Object;" (.ref b) ∧ Fld Z h a1 "java/util/ArrayList" "size" "I" (.int (0 : Int32)) ∧ Fld Z h a1 "java/util/AbstractList" "modCount" "I" (.int mc) ∧ Arv Z h b k (.object "java/lang/Object") (10 : Int32) [.null, .null, .null, .null, .null, .null, .null, .null, .null, .null] .null ∧ (Ovr Z k "java/lang/Object")
set_option maxRecDepth 65536 in
set_option maxHeartbeats 40000000 in
theorem rm25 (l : Launch) (Z : State) (a0 : Array Value) (hw : ∀ d ∈ tables_1, d.before a0 Z = true) (a1 : Addr) (mc : Int32) (de : Addr) (kd : ClassId) (h0 : Heap) (n0 : Nat) (O0 : Old Z n0 h0) (E_a1 : Exa Z h0 a1 "java/util/ArrayList") (F_a1_elementData : Fld Z h0 a1 "java/util/ArrayList" "elementData" "[Ljava/lang/Object;" (.ref de)) (F_a1_size : Fld Z h0 a1 "java/util/ArrayList" "size" "I" (.int (0 : Int32))) (F_a1_modCount : Fld Z h0 a1 "java/util/AbstractList" "modCount" "I" (.int mc)) (S_DEFAULTCAPACITY_EMPTY_ELEMENTDATA : Sta Z Z.heap "java/util/ArrayList" "DEFAULTCAPACITY_EMPTY_ELEMENTDATA" "[Ljava/lang/Object;" (.ref de)) (E_de : Exa Z h0 de "[Ljava/lang/Object;") (A_de : Arv Z h0 de kd (.object "java/lang/Object") (0 : Int32) [] .null) (na1 : n0 ≤ a1) :
    Met l Z (⟨"java/util/ArrayList", "grow", "()[Ljava/lang/Object;"⟩ : MethodName) jdk_38_method_7_code 1 (some (.array (.object "java/lang/Object"))) ({ frames := 2, cells := 1, slots := 10, locals := 29 } : Room) [] #[(.ref a1)] h0 (Q25 Z a1 mc de kd h0 n0) := by
  refine met_of (L0 := #[.val (.ref a1)]) (plainFor_of_name pn5) (fun m => by first | (simp [entryFrame, mkF, argsToLocals, Value.category]; done) | rfl) ?_
  intro p e s m below meth c T0 hx hby hml hown hnm hret hlk hZ X0 e0
  have N0 := Fr.nil n0
  have KK0 : Keep h0 h0 [a1] := Keep.refl _ _
  refine o_aloadN X0 hx (hb hby d25_0) rfl rfl rfl ?_
  refine o_aloadN X0 hx (hb hby d25_1) rfl rfl rfl ?_
  refine o_getF X0 hx hZ hown (host := "") (Or.inl (wd85 hw)) Via.refl e0 F_a1_size (hb hby d25_2) rfl fun T2 X2 e2 => ?_
  refine o_iconst X2 hx (hb hby d25_5) (v := (1 : Int32)) rfl rfl ?_
  refine o_iadd X2 hx (hb hby d25_6) rfl ?_
  rw [show ((0 : Int32) + (1 : Int32)) = (1 : Int32) by decide]
  show Goes p.tables e below (Ends s (Q25 Z a1 mc de kd h0 n0) ({ frames := 2, cells := 1, slots := 10, locals := 29 } : Room).cells ({ frames := 2, cells := 1, slots := 10, locals := 29 } : Room).slots) (T2.setTop (mkF m 7 #[.val (.ref a1)] [(.int (1 : Int32)), (.ref a1)]))
  refine o_private X2 hx hZ hown (wd172 hw) (wd173 hw) (wd174 hw) (notFace_of_selects (args := #[]) (mvT hZ (wd175 hw))) (by decide) E_a1 (rm26 l Z a0 hw a1 mc de kd h0 n0 O0 E_a1 F_a1_elementData F_a1_size F_a1_modCount S_DEFAULTCAPACITY_EMPTY_ELEMENTDATA E_de A_de na1) (wd176 hw) (wd2 hw) e2 (by rw [hml]; rfl) (argsL := [(.int (1 : Int32))]) (rest := []) (W := 0) pd4 rfl rfl rfl rfl (hb hby d25_7) (by decide) (by decide) (by decide) (by decide) (cells' := 1) (slots' := 10) rfl rfl rfl fun v7 T7 h7 Lc7 X7 e7 hq7 => ?_
  obtain ⟨b_7, k_7, rfl, N7q, K7, hb_7, qE_7, qE_7_2, qF_7, qF_7_2, qF_7_3, qA_7, hO_7⟩ := hq7
  have N7 := Fr.app N0 N7q
  have s_b_7_h0 : h0.size ≤ b_7 := Nat.le_trans KK0.1 hb_7
  have n_b_7 : n0 ≤ b_7 := Nat.le_trans (O0.1 ▸ O0.2.1) hb_7
  have KK7_h0 : Keep h0 h7 [a1] := KK0.trans K7 (allS (Or.inl (List.mem_of_getElem? (i := 0) rfl)) all0)
  have OK7 : Old Z n0 h7 := O0.keep K7 (allS na1 all0)
  show Goes p.tables e below (Ends s (Q25 Z a1 mc de kd h0 n0) ({ frames := 2, cells := 1, slots := 10, locals := 29 } : Room).cells ({ frames := 2, cells := 1, slots := 10, locals := 29 } : Room).slots) (T7.setTop (mkF m 10 #[.val (.ref a1)] [(.ref b_7)]))
  exact o_ret X7 hx hlk (t := (.array (.object "java/lang/Object"))) hret rfl (Or.inr (Or.inr (Or.inr (Or.inr ⟨rfl, rfl, rfl⟩)))) (hb hby d25_10) (by decide) (by decide) e7 ⟨b_7, k_7, rfl, N7, KK7_h0, s_b_7_h0, qE_7, qE_7_2, qF_7, qF_7_2, qF_7_3, qA_7, hO_7⟩
def Qa30 (Z : State) (a1 : Addr) (mc : Int32) (de : Addr) (kd : ClassId) (e1 : Addr) (h0 : Heap) (n0 : Nat) (v : Option Value) (h : Heap) (L : List Loc) : Prop := ∃ b : Addr, ∃ k : ClassId, v = none ∧ Fr n0 L ∧ Keep h0 h [a1] ∧ (h0.size ≤ b) ∧ Exa Z h a1 "java/util/ArrayList" ∧ Exa Z h b "[Ljava/lang/Object;" ∧ Fld Z h a1 "java/util/ArrayList" "elementData" "[Ljava/lang/Object;" (.ref b) ∧ Fld Z h a1 "java/util/ArrayList" "size" "I" (.int (1 : Int32)) ∧ Fld Z h a1 "java/util/AbstractList" "modCount" "I" (.int mc) ∧ Arv Z h b k (.object "java/lang/Object") (10 : Int32) [(.ref e1), .null, .null, .null, .null, .null, .null, .null, .null, .null] .null ∧ (Ovr Z k "java/lang/Object")
set_option maxRecDepth 65536 in
set_option maxHeartbeats 40000000 in
theorem rma30 (l : Launch) (Z : State) (a0 : Array Value) (hw : ∀ d ∈ tables_1, d.before a0 Z = true) (a1 : Addr) (mc : Int32) (de : Addr) (kd : ClassId) (e1 : Addr) (h0 : Heap) (n0 : Nat) (O0 : Old Z n0 h0) (E_a1 : Exa Z h0 a1 "java/util/ArrayList") (F_a1_elementData : Fld Z h0 a1 "java/util/ArrayList" "elementData" "[Ljava/lang/Object;" (.ref de)) (F_a1_size : Fld Z h0 a1 "java/util/ArrayList" "size" "I" (.int (0 : Int32))) (F_a1_modCount : Fld Z h0 a1 "java/util/AbstractList" "modCount" "I" (.int mc)) (S_DEFAULTCAPACITY_EMPTY_ELEMENTDATA : Sta Z Z.heap "java/util/ArrayList" "DEFAULTCAPACITY_EMPTY_ELEMENTDATA" "[Ljava/lang/Object;" (.ref de)) (E_de : Exa Z h0 de "[Ljava/lang/Object;") (A_de : Arv Z h0 de kd (.object "java/lang/Object") (0 : Int32) [] .null) (na1 : n0 ≤ a1) (E_e1 : Exa Z h0 e1 "com/example/hybrev/hybrev/RevocationEvent") :
    Met l Z (⟨"java/util/ArrayList", "add", "(Ljava/lang/Object;[Ljava/lang/Object;I)V"⟩ : MethodName) jdk_38_method_24_code 4 none ({ frames := 3, cells := 1, slots := 10, locals := 41 } : Room) [] #[(.ref a1), (.ref e1), (.ref de), (.int (0 : Int32))] h0 (Qa30 Z a1 mc de kd e1 h0 n0) := by
  refine met_of (L0 := #[.val (.ref a1), .val (.ref e1), .val (.ref de), .val (.int (0 : Int32))]) (plainFor_of_name pn5) (fun m => by first | (simp [entryFrame, mkF, argsToLocals, Value.category]; done) | rfl) ?_
  intro p e s m below meth c T0 hx hby hml hown hnm hret hlk hZ X0 e0
  have N0 := Fr.nil n0
  have KK0 : Keep h0 h0 [a1] := Keep.refl _ _
  refine o_iloadN X0 hx (hb hby d24_0) rfl rfl ?_
  refine o_aloadN X0 hx (hb hby d24_1) rfl rfl rfl ?_
  refine o_alen X0 hx hZ e0 A_de (hb hby d24_2) rfl ?_
  refine o_icmpNo X0 hx (hb hby d24_3) (teq (by decide)).2 rfl ?_
  refine o_aloadN X0 hx (hb hby d24_6) rfl rfl rfl ?_
  refine o_private X0 hx hZ hown (wd167 hw) (wd168 hw) (wd169 hw) (notFace_of_selects (args := #[]) (mvT hZ (wd170 hw))) (by decide) E_a1 (rm25 l Z a0 hw a1 mc de kd h0 n0 O0 E_a1 F_a1_elementData F_a1_size F_a1_modCount S_DEFAULTCAPACITY_EMPTY_ELEMENTDATA E_de A_de na1) (wd171 hw) (wd2 hw) e0 (by rw [hml]; rfl) (argsL := []) (rest := []) (W := 0) pd5 rfl rfl rfl rfl (hb hby d24_7) (by decide) (by decide) (by decide) (by decide) (cells' := 1) (slots' := 10) rfl rfl rfl fun v7 T7 h7 Lc7 X7 e7 hq7 => ?_
  obtain ⟨b_7, k_7, rfl, N7q, K7, hb_7, qE_7, qE_7_2, qF_7, qF_7_2, qF_7_3, qA_7, hO_7⟩ := hq7
  have N7 := Fr.app N0 N7q
  have s_b_7_h0 : h0.size ≤ b_7 := Nat.le_trans KK0.1 hb_7
  have n_b_7 : n0 ≤ b_7 := Nat.le_trans (O0.1 ▸ O0.2.1) hb_7
  have KK7_h0 : Keep h0 h7 [a1] := KK0.trans K7 (allS (Or.inl (List.mem_of_getElem? (i := 0) rfl)) all0)
  have OK7 : Old Z n0 h7 := O0.keep K7 (allS na1 all0)
  show Goes p.tables e below (Ends s (Qa30 Z a1 mc de kd e1 h0 n0) ({ frames := 3, cells := 1, slots := 10, locals := 41 } : Room).cells ({ frames := 3, cells := 1, slots := 10, locals := 41 } : Room).slots) (T7.setTop (mkF m 10 #[.val (.ref a1), .val (.ref e1), .val (.ref de), .val (.int (0 : Int32))] [(.ref b_7)]))
  refine o_astoreN X7 hx (hb hby d24_10) rfl (L' := #[.val (.ref a1), .val (.ref e1), .val (.ref b_7), .val (.int (0 : Int32))]) rfl rfl ?_
  refine o_aloadN X7 hx (hb hby d24_11) rfl rfl rfl ?_
  refine o_iloadN X7 hx (hb hby d24_12) rfl rfl ?_
  refine o_aloadN X7 hx (hb hby d24_13) rfl rfl rfl ?_
  have fE14 : Exa Z h7 e1 "com/example/hybrev/hybrev/RevocationEvent" := (E_e1.keep K7)
  refine o_stR X7 hx hZ e7 qA_7 (i := 0) ⟨by decide, by decide⟩ (by decide) (Nat.le_of_ble_eq_true rfl) rfl rfl (fun _ _ _ => own_stoA qA_7 hO_7 (Ins.of_exa fE14 (wd183 hw))) (hb hby d24_14) rfl fun T14 h14 X14 e14 W14 (A14 : Arv Z h14 b_7 k_7 (.object "java/lang/Object") (10 : Int32) [(.ref e1), .null, .null, .null, .null, .null, .null, .null, .null, .null] .null) => ?_
  have N14 := Fr.snoc X14 N7 n_b_7
  have KW14_h0 : Keep h0 h14 [a1] := KK7_h0.wr W14 (Or.inr s_b_7_h0)
  have OW14 : Old Z n0 h14 := OK7.wr W14 n_b_7
  refine o_aloadN X14 hx (hb hby d24_15) rfl rfl rfl ?_
  refine o_iloadN X14 hx (hb hby d24_16) rfl rfl ?_
  refine o_iconst X14 hx (hb hby d24_17) (v := (1 : Int32)) rfl rfl ?_
  refine o_iadd X14 hx (hb hby d24_18) rfl ?_
  rw [show ((0 : Int32) + (1 : Int32)) = (1 : Int32) by decide]
  show Goes p.tables e below (Ends s (Qa30 Z a1 mc de kd e1 h0 n0) ({ frames := 3, cells := 1, slots := 10, locals := 41 } : Room).cells ({ frames := 3, cells := 1, slots := 10, locals := 41 } : Room).slots) (T14.setTop (mkF m 19 #[.val (.ref a1), .val (.ref e1), .val (.ref b_7), .val (.int (0 : Int32))] [(.int (1 : Int32)), (.ref a1)]))
  have fF19 : Fld Z h14 a1 "java/util/ArrayList" "size" "I" (.int (0 : Int32)) := (qF_7_2.other W14 (Or.inl (Nat.ne_of_lt (Nat.lt_of_lt_of_le E_a1.lt hb_7))))
  have fE19 : Exa Z h14 a1 "java/util/ArrayList" := (qE_7.wr W14)
  refine o_putF X14 hx hZ hown (host := "") (Or.inl (wd85 hw)) Via.refl e14 fF19 fE19 (Or.inl (wd86 hw)) (wd1 hw) (ty := .int) (by decide) rfl rfl (hb hby d24_19) rfl fun T19 h19 X19 e19 W19 => ?_
  have F19 : Fld Z h19 a1 "java/util/ArrayList" "size" "I" (.int (1 : Int32)) := fF19.same W19
  have N19 := Fr.snoc X19 N14 na1
  have KW19_h0 : Keep h0 h19 [a1] := KW14_h0.wr W19 (Or.inl (List.mem_of_getElem? (i := 0) rfl))
  have OW19 : Old Z n0 h19 := OW14.wr W19 na1
  have fE22 : Exa Z h19 a1 "java/util/ArrayList" := (fE19.wr W19)
  have fE22_2 : Exa Z h19 b_7 "[Ljava/lang/Object;" := ((qE_7_2.wr W14).wr W19)
  have fF22 : Fld Z h19 a1 "java/util/ArrayList" "elementData" "[Ljava/lang/Object;" (.ref b_7) := ((qF_7.other W14 (Or.inl (Nat.ne_of_lt (Nat.lt_of_lt_of_le E_a1.lt hb_7)))).other W19 (Or.inr (slot_ne (Z := Z) (a0 := a0) (Or.inl (wd25 hw)) (Or.inl (wd86 hw)) (by decide) (t := (.array (.object "java/lang/Object"))) (t' := .int) (by decide) (by decide))))
  have fF22_2 : Fld Z h19 a1 "java/util/AbstractList" "modCount" "I" (.int mc) := ((qF_7_3.other W14 (Or.inl (Nat.ne_of_lt (Nat.lt_of_lt_of_le E_a1.lt hb_7)))).other W19 (Or.inr (slot_ne (Z := Z) (a0 := a0) (Or.inl (wd22 hw)) (Or.inl (wd86 hw)) (by decide) (t := .int) (t' := .int) (by decide) (by decide))))
  have fA22 : Arv Z h19 b_7 k_7 (.object "java/lang/Object") (10 : Int32) [(.ref e1), .null, .null, .null, .null, .null, .null, .null, .null, .null] .null := (A14.other W19 (Ne.symm (Nat.ne_of_lt (Nat.lt_of_lt_of_le E_a1.lt hb_7))))
  exact o_retV X19 hx hlk hret (hb hby d24_22) (by decide) (by decide) e19 ⟨b_7, k_7, rfl, N19, KW19_h0, s_b_7_h0, fE22, fE22_2, fF22, F19, fF22_2, fA22, hO_7⟩
def Qad0 (Z : State) (a1 : Addr) (mc : Int32) (de : Addr) (kd : ClassId) (e1 : Addr) (h0 : Heap) (n0 : Nat) (v : Option Value) (h : Heap) (L : List Loc) : Prop := ∃ b : Addr, ∃ k : ClassId, v = some (.int (1 : Int32)) ∧ Fr n0 L ∧ Keep h0 h [a1] ∧ (h0.size ≤ b) ∧ Exa Z h a1 "java/util/ArrayList" ∧ Exa Z h b "[Ljava/lang/Object;" ∧ Fld Z h a1 "java/util/ArrayList" "elementData" "[Ljava/lang/Object;" (.ref b) ∧ Fld Z h a1 "java/util/ArrayList" "size" "I" (.int (1 : Int32)) ∧ Fld Z h a1 "java/util/AbstractList" "modCount" "I" (.int (mc + (1 : Int32))) ∧ Arv Z h b k (.object "java/lang/Object") (10 : Int32) [(.ref e1), .null, .null, .null, .null, .null, .null, .null, .null, .null] .null ∧ (Ovr Z k "java/lang/Object")
set_option maxRecDepth 65536 in
set_option maxHeartbeats 40000000 in
theorem rmad0 (l : Launch) (Z : State) (a0 : Array Value) (hw : ∀ d ∈ tables_1, d.before a0 Z = true) (a1 : Addr) (mc : Int32) (de : Addr) (kd : ClassId) (e1 : Addr) (h0 : Heap) (n0 : Nat) (O0 : Old Z n0 h0) (E_a1 : Exa Z h0 a1 "java/util/ArrayList") (F_a1_elementData : Fld Z h0 a1 "java/util/ArrayList" "elementData" "[Ljava/lang/Object;" (.ref de)) (F_a1_size : Fld Z h0 a1 "java/util/ArrayList" "size" "I" (.int (0 : Int32))) (F_a1_modCount : Fld Z h0 a1 "java/util/AbstractList" "modCount" "I" (.int mc)) (S_DEFAULTCAPACITY_EMPTY_ELEMENTDATA : Sta Z Z.heap "java/util/ArrayList" "DEFAULTCAPACITY_EMPTY_ELEMENTDATA" "[Ljava/lang/Object;" (.ref de)) (E_de : Exa Z h0 de "[Ljava/lang/Object;") (A_de : Arv Z h0 de kd (.object "java/lang/Object") (0 : Int32) [] .null) (na1 : n0 ≤ a1) (E_e1 : Exa Z h0 e1 "com/example/hybrev/hybrev/RevocationEvent") :
    Met l Z (⟨"java/util/ArrayList", "add", "(Ljava/lang/Object;)Z"⟩ : MethodName) jdk_38_method_25_code 2 (some .boolean) ({ frames := 4, cells := 1, slots := 10, locals := 56 } : Room) [] #[(.ref a1), (.ref e1)] h0 (Qad0 Z a1 mc de kd e1 h0 n0) := by
  refine met_of (L0 := #[.val (.ref a1), .val (.ref e1)]) (plainFor_of_name pn5) (fun m => by first | (simp [entryFrame, mkF, argsToLocals, Value.category]; done) | rfl) ?_
  intro p e s m below meth c T0 hx hby hml hown hnm hret hlk hZ X0 e0
  have N0 := Fr.nil n0
  have KK0 : Keep h0 h0 [a1] := Keep.refl _ _
  refine o_aloadN X0 hx (hb hby d23_0) rfl rfl rfl ?_
  refine o_dup X0 hx (hb hby d23_1) rfl rfl ?_
  refine o_getF X0 hx hZ hown (host := "") (Or.inl (wd160 hw)) (Via.of (wd161 hw)) e0 F_a1_modCount (hb hby d23_2) rfl fun T2 X2 e2 => ?_
  refine o_iconst X2 hx (hb hby d23_5) (v := (1 : Int32)) rfl rfl ?_
  refine o_iadd X2 hx (hb hby d23_6) rfl ?_
  refine o_putF X2 hx hZ hown (host := "") (Or.inl (wd160 hw)) (Via.of (wd161 hw)) e2 F_a1_modCount E_a1 (Or.inl (wd22 hw)) (wd1 hw) (ty := .int) (by decide) rfl rfl (hb hby d23_7) rfl fun T7 h7 X7 e7 W7 => ?_
  have F7 : Fld Z h7 a1 "java/util/AbstractList" "modCount" "I" (.int (mc + (1 : Int32))) := F_a1_modCount.same W7
  have N7 := Fr.snoc X7 N0 na1
  have KW7_h0 : Keep h0 h7 [a1] := KK0.wr W7 (Or.inl (List.mem_of_getElem? (i := 0) rfl))
  have OW7 : Old Z n0 h7 := O0.wr W7 na1
  refine o_aloadN X7 hx (hb hby d23_10) rfl rfl rfl ?_
  refine o_aloadN X7 hx (hb hby d23_11) rfl rfl rfl ?_
  refine o_aloadN X7 hx (hb hby d23_12) rfl rfl rfl ?_
  have fF13 : Fld Z h7 a1 "java/util/ArrayList" "elementData" "[Ljava/lang/Object;" (.ref de) := (F_a1_elementData.other W7 (Or.inr (slot_ne (Z := Z) (a0 := a0) (Or.inl (wd25 hw)) (Or.inl (wd22 hw)) (by decide) (t := (.array (.object "java/lang/Object"))) (t' := .int) (by decide) (by decide))))
  refine o_getF X7 hx hZ hown (host := "") (Or.inl (wd24 hw)) Via.refl e7 fF13 (hb hby d23_13) rfl fun T13 X13 e13 => ?_
  refine o_aloadN X13 hx (hb hby d23_16) rfl rfl rfl ?_
  have fF17 : Fld Z h7 a1 "java/util/ArrayList" "size" "I" (.int (0 : Int32)) := (F_a1_size.other W7 (Or.inr (slot_ne (Z := Z) (a0 := a0) (Or.inl (wd86 hw)) (Or.inl (wd22 hw)) (by decide) (t := .int) (t' := .int) (by decide) (by decide))))
  refine o_getF X13 hx hZ hown (host := "") (Or.inl (wd85 hw)) Via.refl e13 fF17 (hb hby d23_17) rfl fun T17 X17 e17 => ?_
  have fE20 : Exa Z h7 a1 "java/util/ArrayList" := (E_a1.wr W7)
  have fE20_2 : Exa Z h7 de "[Ljava/lang/Object;" := (E_de.wr W7)
  have fA20 : Arv Z h7 de kd (.object "java/lang/Object") (0 : Int32) [] .null := (A_de.other W7 (ne_exa fE20_2 fE20 (by decide)))
  have fE20_3 : Exa Z h7 e1 "com/example/hybrev/hybrev/RevocationEvent" := (E_e1.wr W7)
  refine o_private X17 hx hZ hown (wd162 hw) (wd163 hw) (wd164 hw) (notFace_of_selects (args := #[]) (mvT hZ (wd165 hw))) (by decide) fE20 (rma30 l Z a0 hw a1 ((mc + (1 : Int32))) de kd e1 h7 n0 OW7 fE20 fF13 fF17 F7 S_DEFAULTCAPACITY_EMPTY_ELEMENTDATA fE20_2 fA20 na1 fE20_3) (wd166 hw) (wd2 hw) e17 (by rw [hml]; rfl) (argsL := [(.ref e1), (.ref de), (.int (0 : Int32))]) (rest := []) (W := 0) pd6 rfl rfl rfl rfl (hb hby d23_20) (by decide) (by decide) (by decide) (by decide) (cells' := 1) (slots' := 10) rfl rfl rfl fun v20 T20 h20 Lc20 X20 e20 hq20 => ?_
  obtain ⟨b_20, k_20, rfl, N20q, K20, hb_20, qE_20, qE_20_2, qF_20, qF_20_2, qF_20_3, qA_20, hO_20⟩ := hq20
  have N20 := Fr.app N7 N20q
  have s_b_20_h0 : h0.size ≤ b_20 := Nat.le_trans KW7_h0.1 hb_20
  have n_b_20 : n0 ≤ b_20 := Nat.le_trans (OW7.1 ▸ OW7.2.1) hb_20
  have KK20_h0 : Keep h0 h20 [a1] := KW7_h0.trans K20 (allS (Or.inl (List.mem_of_getElem? (i := 0) rfl)) all0)
  have OK20 : Old Z n0 h20 := OW7.keep K20 (allS na1 all0)
  show Goes p.tables e below (Ends s (Qad0 Z a1 mc de kd e1 h0 n0) ({ frames := 4, cells := 1, slots := 10, locals := 56 } : Room).cells ({ frames := 4, cells := 1, slots := 10, locals := 56 } : Room).slots) (T20.setTop (mkF m 23 #[.val (.ref a1), .val (.ref e1)] []))
  refine o_iconst X20 hx (hb hby d23_23) (v := (1 : Int32)) rfl rfl ?_
  exact o_ret X20 hx hlk (t := .boolean) hret rfl (Or.inl ⟨rfl, by decide, _, rfl⟩) (hb hby d23_24) (by decide) (by decide) e20 ⟨b_20, k_20, rfl, N20, KK20_h0, s_b_20_h0, qE_20, qE_20_2, qF_20, qF_20_2, qF_20_3, qA_20, hO_20⟩
def Qa31 (Z : State) (a1 : Addr) (mc : Int32) (b1 : Addr) (k1 : ClassId) (e1 : Addr) (e2 : Addr) (h0 : Heap) (n0 : Nat) (v : Option Value) (h : Heap) (L : List Loc) : Prop := v = none ∧ Fr n0 L ∧ Keep h0 h [a1, b1] ∧ Exa Z h a1 "java/util/ArrayList" ∧ Exa Z h b1 "[Ljava/lang/Object;" ∧ Fld Z h a1 "java/util/ArrayList" "elementData" "[Ljava/lang/Object;" (.ref b1) ∧ Fld Z h a1 "java/util/ArrayList" "size" "I" (.int (2 : Int32)) ∧ Fld Z h a1 "java/util/AbstractList" "modCount" "I" (.int mc) ∧ Arv Z h b1 k1 (.object "java/lang/Object") (10 : Int32) [(.ref e1), (.ref e2), .null, .null, .null, .null, .null, .null, .null, .null] .null
set_option maxRecDepth 65536 in
set_option maxHeartbeats 40000000 in
theorem rma31 (l : Launch) (Z : State) (a0 : Array Value) (hw : ∀ d ∈ tables_1, d.before a0 Z = true) (a1 : Addr) (mc : Int32) (b1 : Addr) (k1 : ClassId) (e1 : Addr) (e2 : Addr) (h0 : Heap) (n0 : Nat) (O0 : Old Z n0 h0) (E_a1 : Exa Z h0 a1 "java/util/ArrayList") (E_b1 : Exa Z h0 b1 "[Ljava/lang/Object;") (F_a1_elementData : Fld Z h0 a1 "java/util/ArrayList" "elementData" "[Ljava/lang/Object;" (.ref b1)) (F_a1_size : Fld Z h0 a1 "java/util/ArrayList" "size" "I" (.int (1 : Int32))) (F_a1_modCount : Fld Z h0 a1 "java/util/AbstractList" "modCount" "I" (.int mc)) (A_b1 : Arv Z h0 b1 k1 (.object "java/lang/Object") (10 : Int32) [(.ref e1), .null, .null, .null, .null, .null, .null, .null, .null, .null] .null) (hO : Ovr Z k1 "java/lang/Object") (nb1 : n0 ≤ b1) (ne : a1 ≠ b1) (na1 : n0 ≤ a1) (E_e2 : Exa Z h0 e2 "com/example/hybrev/hybrev/RevocationEvent") :
    Met l Z (⟨"java/util/ArrayList", "add", "(Ljava/lang/Object;[Ljava/lang/Object;I)V"⟩ : MethodName) jdk_38_method_24_code 4 none ({ frames := 0, cells := 0, slots := 0, locals := 0 } : Room) [] #[(.ref a1), (.ref e2), (.ref b1), (.int (1 : Int32))] h0 (Qa31 Z a1 mc b1 k1 e1 e2 h0 n0) := by
  refine met_of (L0 := #[.val (.ref a1), .val (.ref e2), .val (.ref b1), .val (.int (1 : Int32))]) (plainFor_of_name pn5) (fun m => by first | (simp [entryFrame, mkF, argsToLocals, Value.category]; done) | rfl) ?_
  intro p e s m below meth c T0 hx hby hml hown hnm hret hlk hZ X0 e0
  have N0 := Fr.nil n0
  have KK0 : Keep h0 h0 [a1, b1] := Keep.refl _ _
  refine o_iloadN X0 hx (hb hby d24_0) rfl rfl ?_
  refine o_aloadN X0 hx (hb hby d24_1) rfl rfl rfl ?_
  refine o_alen X0 hx hZ e0 A_b1 (hb hby d24_2) rfl ?_
  refine o_icmpYes X0 hx (hb hby d24_3) (feq (by decide)).2 (by decide) (pc' := 11) (by decide) ?_
  refine o_aloadN X0 hx (hb hby d24_11) rfl rfl rfl ?_
  refine o_iloadN X0 hx (hb hby d24_12) rfl rfl ?_
  refine o_aloadN X0 hx (hb hby d24_13) rfl rfl rfl ?_
  refine o_stR X0 hx hZ e0 A_b1 (i := 1) ⟨by decide, by decide⟩ (by decide) (Nat.le_of_ble_eq_true rfl) rfl rfl (fun _ _ _ => own_stoA A_b1 hO (Ins.of_exa E_e2 (wd183 hw))) (hb hby d24_14) rfl fun T14 h14 X14 e14 W14 (A14 : Arv Z h14 b1 k1 (.object "java/lang/Object") (10 : Int32) [(.ref e1), (.ref e2), .null, .null, .null, .null, .null, .null, .null, .null] .null) => ?_
  have N14 := Fr.snoc X14 N0 nb1
  have KW14_h0 : Keep h0 h14 [a1, b1] := KK0.wr W14 (Or.inl (List.mem_of_getElem? (i := 1) rfl))
  have OW14 : Old Z n0 h14 := O0.wr W14 nb1
  refine o_aloadN X14 hx (hb hby d24_15) rfl rfl rfl ?_
  refine o_iloadN X14 hx (hb hby d24_16) rfl rfl ?_
  refine o_iconst X14 hx (hb hby d24_17) (v := (1 : Int32)) rfl rfl ?_
  refine o_iadd X14 hx (hb hby d24_18) rfl ?_
  rw [show ((1 : Int32) + (1 : Int32)) = (2 : Int32) by decide]
  show Goes p.tables e below (Ends s (Qa31 Z a1 mc b1 k1 e1 e2 h0 n0) ({ frames := 0, cells := 0, slots := 0, locals := 0 } : Room).cells ({ frames := 0, cells := 0, slots := 0, locals := 0 } : Room).slots) (T14.setTop (mkF m 19 #[.val (.ref a1), .val (.ref e2), .val (.ref b1), .val (.int (1 : Int32))] [(.int (2 : Int32)), (.ref a1)]))
  have fF19 : Fld Z h14 a1 "java/util/ArrayList" "size" "I" (.int (1 : Int32)) := (F_a1_size.other W14 (Or.inl ne))
  have fE19 : Exa Z h14 a1 "java/util/ArrayList" := (E_a1.wr W14)
  refine o_putF X14 hx hZ hown (host := "") (Or.inl (wd85 hw)) Via.refl e14 fF19 fE19 (Or.inl (wd86 hw)) (wd1 hw) (ty := .int) (by decide) rfl rfl (hb hby d24_19) rfl fun T19 h19 X19 e19 W19 => ?_
  have F19 : Fld Z h19 a1 "java/util/ArrayList" "size" "I" (.int (2 : Int32)) := fF19.same W19
  have N19 := Fr.snoc X19 N14 na1
  have KW19_h0 : Keep h0 h19 [a1, b1] := KW14_h0.wr W19 (Or.inl (List.mem_of_getElem? (i := 0) rfl))
  have OW19 : Old Z n0 h19 := OW14.wr W19 na1
  have fE22 : Exa Z h19 a1 "java/util/ArrayList" := (fE19.wr W19)
  have fE22_2 : Exa Z h19 b1 "[Ljava/lang/Object;" := ((E_b1.wr W14).wr W19)
  have fF22 : Fld Z h19 a1 "java/util/ArrayList" "elementData" "[Ljava/lang/Object;" (.ref b1) := ((F_a1_elementData.other W14 (Or.inl ne)).other W19 (Or.inr (slot_ne (Z := Z) (a0 := a0) (Or.inl (wd25 hw)) (Or.inl (wd86 hw)) (by decide) (t := (.array (.object "java/lang/Object"))) (t' := .int) (by decide) (by decide))))
  have fF22_2 : Fld Z h19 a1 "java/util/AbstractList" "modCount" "I" (.int mc) := ((F_a1_modCount.other W14 (Or.inl ne)).other W19 (Or.inr (slot_ne (Z := Z) (a0 := a0) (Or.inl (wd22 hw)) (Or.inl (wd86 hw)) (by decide) (t := .int) (t' := .int) (by decide) (by decide))))
  have fA22 : Arv Z h19 b1 k1 (.object "java/lang/Object") (10 : Int32) [(.ref e1), (.ref e2), .null, .null, .null, .null, .null, .null, .null, .null] .null := (A14.other W19 (Ne.symm ne))
  exact o_retV X19 hx hlk hret (hb hby d24_22) (by decide) (by decide) e19 ⟨rfl, N19, KW19_h0, fE22, fE22_2, fF22, F19, fF22_2, fA22⟩
def Qad1 (Z : State) (a1 : Addr) (mc : Int32) (b1 : Addr) (k1 : ClassId) (e1 : Addr) (e2 : Addr) (h0 : Heap) (n0 : Nat) (v : Option Value) (h : Heap) (L : List Loc) : Prop := v = some (.int (1 : Int32)) ∧ Fr n0 L ∧ Keep h0 h [a1, b1] ∧ Exa Z h a1 "java/util/ArrayList" ∧ Exa Z h b1 "[Ljava/lang/Object;" ∧ Fld Z h a1 "java/util/ArrayList" "elementData" "[Ljava/lang/Object;" (.ref b1) ∧ Fld Z h a1 "java/util/ArrayList" "size" "I" (.int (2 : Int32)) ∧ Fld Z h a1 "java/util/AbstractList" "modCount" "I" (.int (mc + (1 : Int32))) ∧ Arv Z h b1 k1 (.object "java/lang/Object") (10 : Int32) [(.ref e1), (.ref e2), .null, .null, .null, .null, .null, .null, .null, .null] .null
set_option maxRecDepth 65536 in
set_option maxHeartbeats 40000000 in
theorem rmad1 (l : Launch) (Z : State) (a0 : Array Value) (hw : ∀ d ∈ tables_1, d.before a0 Z = true) (a1 : Addr) (mc : Int32) (b1 : Addr) (k1 : ClassId) (e1 : Addr) (e2 : Addr) (h0 : Heap) (n0 : Nat) (O0 : Old Z n0 h0) (E_a1 : Exa Z h0 a1 "java/util/ArrayList") (E_b1 : Exa Z h0 b1 "[Ljava/lang/Object;") (F_a1_elementData : Fld Z h0 a1 "java/util/ArrayList" "elementData" "[Ljava/lang/Object;" (.ref b1)) (F_a1_size : Fld Z h0 a1 "java/util/ArrayList" "size" "I" (.int (1 : Int32))) (F_a1_modCount : Fld Z h0 a1 "java/util/AbstractList" "modCount" "I" (.int mc)) (A_b1 : Arv Z h0 b1 k1 (.object "java/lang/Object") (10 : Int32) [(.ref e1), .null, .null, .null, .null, .null, .null, .null, .null, .null] .null) (hO : Ovr Z k1 "java/lang/Object") (nb1 : n0 ≤ b1) (ne : a1 ≠ b1) (na1 : n0 ≤ a1) (E_e2 : Exa Z h0 e2 "com/example/hybrev/hybrev/RevocationEvent") :
    Met l Z (⟨"java/util/ArrayList", "add", "(Ljava/lang/Object;)Z"⟩ : MethodName) jdk_38_method_25_code 2 (some .boolean) ({ frames := 1, cells := 0, slots := 0, locals := 15 } : Room) [] #[(.ref a1), (.ref e2)] h0 (Qad1 Z a1 mc b1 k1 e1 e2 h0 n0) := by
  refine met_of (L0 := #[.val (.ref a1), .val (.ref e2)]) (plainFor_of_name pn5) (fun m => by first | (simp [entryFrame, mkF, argsToLocals, Value.category]; done) | rfl) ?_
  intro p e s m below meth c T0 hx hby hml hown hnm hret hlk hZ X0 e0
  have N0 := Fr.nil n0
  have KK0 : Keep h0 h0 [a1, b1] := Keep.refl _ _
  refine o_aloadN X0 hx (hb hby d23_0) rfl rfl rfl ?_
  refine o_dup X0 hx (hb hby d23_1) rfl rfl ?_
  refine o_getF X0 hx hZ hown (host := "") (Or.inl (wd160 hw)) (Via.of (wd161 hw)) e0 F_a1_modCount (hb hby d23_2) rfl fun T2 X2 e2_2 => ?_
  refine o_iconst X2 hx (hb hby d23_5) (v := (1 : Int32)) rfl rfl ?_
  refine o_iadd X2 hx (hb hby d23_6) rfl ?_
  refine o_putF X2 hx hZ hown (host := "") (Or.inl (wd160 hw)) (Via.of (wd161 hw)) e2_2 F_a1_modCount E_a1 (Or.inl (wd22 hw)) (wd1 hw) (ty := .int) (by decide) rfl rfl (hb hby d23_7) rfl fun T7 h7 X7 e7 W7 => ?_
  have F7 : Fld Z h7 a1 "java/util/AbstractList" "modCount" "I" (.int (mc + (1 : Int32))) := F_a1_modCount.same W7
  have N7 := Fr.snoc X7 N0 na1
  have KW7_h0 : Keep h0 h7 [a1, b1] := KK0.wr W7 (Or.inl (List.mem_of_getElem? (i := 0) rfl))
  have OW7 : Old Z n0 h7 := O0.wr W7 na1
  refine o_aloadN X7 hx (hb hby d23_10) rfl rfl rfl ?_
  refine o_aloadN X7 hx (hb hby d23_11) rfl rfl rfl ?_
  refine o_aloadN X7 hx (hb hby d23_12) rfl rfl rfl ?_
  have fF13 : Fld Z h7 a1 "java/util/ArrayList" "elementData" "[Ljava/lang/Object;" (.ref b1) := (F_a1_elementData.other W7 (Or.inr (slot_ne (Z := Z) (a0 := a0) (Or.inl (wd25 hw)) (Or.inl (wd22 hw)) (by decide) (t := (.array (.object "java/lang/Object"))) (t' := .int) (by decide) (by decide))))
  refine o_getF X7 hx hZ hown (host := "") (Or.inl (wd24 hw)) Via.refl e7 fF13 (hb hby d23_13) rfl fun T13 X13 e13 => ?_
  refine o_aloadN X13 hx (hb hby d23_16) rfl rfl rfl ?_
  have fF17 : Fld Z h7 a1 "java/util/ArrayList" "size" "I" (.int (1 : Int32)) := (F_a1_size.other W7 (Or.inr (slot_ne (Z := Z) (a0 := a0) (Or.inl (wd86 hw)) (Or.inl (wd22 hw)) (by decide) (t := .int) (t' := .int) (by decide) (by decide))))
  refine o_getF X13 hx hZ hown (host := "") (Or.inl (wd85 hw)) Via.refl e13 fF17 (hb hby d23_17) rfl fun T17 X17 e17 => ?_
  have fE20 : Exa Z h7 a1 "java/util/ArrayList" := (E_a1.wr W7)
  have fE20_2 : Exa Z h7 b1 "[Ljava/lang/Object;" := (E_b1.wr W7)
  have fA20 : Arv Z h7 b1 k1 (.object "java/lang/Object") (10 : Int32) [(.ref e1), .null, .null, .null, .null, .null, .null, .null, .null, .null] .null := (A_b1.other W7 (Ne.symm ne))
  have fE20_3 : Exa Z h7 e2 "com/example/hybrev/hybrev/RevocationEvent" := (E_e2.wr W7)
  refine o_private X17 hx hZ hown (wd162 hw) (wd163 hw) (wd164 hw) (notFace_of_selects (args := #[]) (mvT hZ (wd165 hw))) (by decide) fE20 (rma31 l Z a0 hw a1 ((mc + (1 : Int32))) b1 k1 e1 e2 h7 n0 OW7 fE20 fE20_2 fF13 fF17 F7 fA20 hO nb1 ne na1 fE20_3) (wd166 hw) (wd2 hw) e17 (by rw [hml]; rfl) (argsL := [(.ref e2), (.ref b1), (.int (1 : Int32))]) (rest := []) (W := 0) pd6 rfl rfl rfl rfl (hb hby d23_20) (by decide) (by decide) (by decide) (by decide) (cells' := 0) (slots' := 0) rfl rfl rfl fun v20 T20 h20 Lc20 X20 e20 hq20 => ?_
  obtain ⟨rfl, N20q, K20, qE_20, qE_20_2, qF_20, qF_20_2, qF_20_3, qA_20⟩ := hq20
  have N20 := Fr.app N7 N20q
  have KK20_h0 : Keep h0 h20 [a1, b1] := KW7_h0.trans K20 (allS (Or.inl (List.mem_of_getElem? (i := 0) rfl)) (allS (Or.inl (List.mem_of_getElem? (i := 1) rfl)) all0))
  have OK20 : Old Z n0 h20 := OW7.keep K20 (allS na1 (allS nb1 all0))
  show Goes p.tables e below (Ends s (Qad1 Z a1 mc b1 k1 e1 e2 h0 n0) ({ frames := 1, cells := 0, slots := 0, locals := 15 } : Room).cells ({ frames := 1, cells := 0, slots := 0, locals := 15 } : Room).slots) (T20.setTop (mkF m 23 #[.val (.ref a1), .val (.ref e2)] []))
  refine o_iconst X20 hx (hb hby d23_23) (v := (1 : Int32)) rfl rfl ?_
  exact o_ret X20 hx hlk (t := .boolean) hret rfl (Or.inl ⟨rfl, by decide, _, rfl⟩) (hb hby d23_24) (by decide) (by decide) e20 ⟨rfl, N20, KK20_h0, qE_20, qE_20_2, qF_20, qF_20_2, qF_20_3, qA_20⟩
def Q22 (Z : State) (a1 : Addr) (c1 : Addr) (c2 : Addr) (h0 : Heap) (n0 : Nat) (v : Option Value) (h : Heap) (L : List Loc) : Prop := v = none ∧ Fr n0 L ∧ Keep h0 h [a1] ∧ Exa Z h a1 "com/example/hybrev/hybrev/RevocationEvent"
set_option maxRecDepth 65536 in
set_option maxHeartbeats 40000000 in
theorem rm22 (l : Launch) (Z : State) (a0 : Array Value) (hw : ∀ d ∈ tables_1, d.before a0 Z = true) (a1 : Addr) (c1 : Addr) (c2 : Addr) (h0 : Heap) (n0 : Nat) (O0 : Old Z n0 h0) (E_a1 : Exa Z h0 a1 "com/example/hybrev/hybrev/RevocationEvent") (F_a1_kind : Fld Z h0 a1 "com/example/hybrev/hybrev/RevocationEvent" "kind" "Lcom/example/hybrev/hybrev/RevocationEvent$Kind;" .null) (F_a1_id : Fld Z h0 a1 "com/example/hybrev/hybrev/RevocationEvent" "id" "Ljava/lang/String;" .null) (na1 : n0 ≤ a1) :
    Met l Z (⟨"com/example/hybrev/hybrev/RevocationEvent", "<init>", "(Lcom/example/hybrev/hybrev/RevocationEvent$Kind;Ljava/lang/String;)V"⟩ : MethodName) prog_16_method_1_code 3 none ({ frames := 1, cells := 0, slots := 0, locals := 12 } : Room) [] #[(.ref a1), (.ref c1), (.ref c2)] h0 (Q22 Z a1 c1 c2 h0 n0) := by
  refine met_of (L0 := #[.val (.ref a1), .val (.ref c1), .val (.ref c2)]) (plainFor_of_name pn6) (fun m => by first | (simp [entryFrame, mkF, argsToLocals, Value.category]; done) | rfl) ?_
  intro p e s m below meth c T0 hx hby hml hown hnm hret hlk hZ X0 e0
  have N0 := Fr.nil n0
  have KK0 : Keep h0 h0 [a1] := Keep.refl _ _
  refine o_aloadN X0 hx (hb hby d22_0) rfl rfl rfl ?_
  refine o_initO X0 hx hZ hown (wd150 hw) (wd19 hw) (wd20 hw) e0 (by rw [hml]; rfl) (hb hby d22_1) (by decide) (W := 0) rfl (by decide) rfl fun T1 X1 e1 => ?_
  refine o_aloadN X1 hx (hb hby d22_4) rfl rfl rfl ?_
  refine o_aloadN X1 hx (hb hby d22_5) rfl rfl rfl ?_
  refine o_putF X1 hx hZ hown (host := "") (Or.inl (wd151 hw)) Via.refl e1 F_a1_kind E_a1 (Or.inr ⟨(wd152 hw), rfl, hnm⟩) (wd145 hw) (ty := (.object "com/example/hybrev/hybrev/RevocationEvent$Kind")) (by decide) rfl rfl (hb hby d22_6) rfl fun T6 h6 X6 e6 W6 => ?_
  have F6 : Fld Z h6 a1 "com/example/hybrev/hybrev/RevocationEvent" "kind" "Lcom/example/hybrev/hybrev/RevocationEvent$Kind;" (.ref c1) := F_a1_kind.same W6
  have N6 := Fr.snoc X6 N0 na1
  have KW6_h0 : Keep h0 h6 [a1] := KK0.wr W6 (Or.inl (List.mem_of_getElem? (i := 0) rfl))
  have OW6 : Old Z n0 h6 := O0.wr W6 na1
  refine o_aloadN X6 hx (hb hby d22_9) rfl rfl rfl ?_
  refine o_aloadN X6 hx (hb hby d22_10) rfl rfl rfl ?_
  have fF11 : Fld Z h6 a1 "com/example/hybrev/hybrev/RevocationEvent" "id" "Ljava/lang/String;" .null := (F_a1_id.other W6 (Or.inr (slot_ne (Z := Z) (a0 := a0) (Or.inr (wd154 hw)) (Or.inr (wd152 hw)) (by decide) (t := (.object "java/lang/String")) (t' := (.object "com/example/hybrev/hybrev/RevocationEvent$Kind")) (by decide) (by decide))))
  have fE11 : Exa Z h6 a1 "com/example/hybrev/hybrev/RevocationEvent" := (E_a1.wr W6)
  refine o_putF X6 hx hZ hown (host := "") (Or.inl (wd153 hw)) Via.refl e6 fF11 fE11 (Or.inr ⟨(wd154 hw), rfl, hnm⟩) (wd145 hw) (ty := (.object "java/lang/String")) (by decide) rfl rfl (hb hby d22_11) rfl fun T11 h11 X11 e11 W11 => ?_
  have F11 : Fld Z h11 a1 "com/example/hybrev/hybrev/RevocationEvent" "id" "Ljava/lang/String;" (.ref c2) := fF11.same W11
  have N11 := Fr.snoc X11 N6 na1
  have KW11_h0 : Keep h0 h11 [a1] := KW6_h0.wr W11 (Or.inl (List.mem_of_getElem? (i := 0) rfl))
  have OW11 : Old Z n0 h11 := OW6.wr W11 na1
  have fE14 : Exa Z h11 a1 "com/example/hybrev/hybrev/RevocationEvent" := (fE11.wr W11)
  exact o_retV X11 hx hlk hret (hb hby d22_14) (by decide) (by decide) e11 ⟨rfl, N11, KW11_h0, fE14⟩
def Q36 (Z : State) (a1 : Addr) (h0 : Heap) (n0 : Nat) (v : Option Value) (h : Heap) (L : List Loc) : Prop := v = some (.ref a1) ∧ Fr n0 L ∧ h = h0
set_option maxRecDepth 65536 in
set_option maxHeartbeats 40000000 in
theorem rm36 (l : Launch) (Z : State) (a0 : Array Value) (hw : ∀ d ∈ tables_1, d.before a0 Z = true) (a1 : Addr) (h0 : Heap) (n0 : Nat) (O0 : Old Z n0 h0) :
    Met l Z (⟨"java/util/Objects", "requireNonNull", "(Ljava/lang/Object;)Ljava/lang/Object;"⟩ : MethodName) jdk_31_method_10_code 1 (some (.object "java/lang/Object")) ({ frames := 0, cells := 0, slots := 0, locals := 0 } : Room) [] #[(.ref a1)] h0 (Q36 Z a1 h0 n0) := by
  refine met_of (L0 := #[.val (.ref a1)]) (plainFor_of_name pn7) (fun m => by first | (simp [entryFrame, mkF, argsToLocals, Value.category]; done) | rfl) ?_
  intro p e s m below meth c T0 hx hby hml hown hnm hret hlk hZ X0 e0
  have N0 := Fr.nil n0
  refine o_aloadN X0 hx (hb hby d36_0) rfl rfl rfl ?_
  refine o_ifnonnullYes X0 hx (hb hby d36_1) (by decide) (pc' := 12) (by decide) ?_
  refine o_aloadN X0 hx (hb hby d36_12) rfl rfl rfl ?_
  exact o_ret X0 hx hlk (t := (.object "java/lang/Object")) hret rfl (Or.inr (Or.inr (Or.inr (Or.inr ⟨rfl, rfl, rfl⟩)))) (hb hby d36_13) (by decide) (by decide) e0 ⟨rfl, N0, rfl⟩
def Q13 (Z : State) (a1 : Addr) (a2 : Addr) (h0 : Heap) (n0 : Nat) (v : Option Value) (h : Heap) (L : List Loc) : Prop := v = some (.ref a1) ∧ Fr n0 L ∧ h = h0
set_option maxRecDepth 65536 in
set_option maxHeartbeats 40000000 in
theorem rm13 (l : Launch) (Z : State) (a0 : Array Value) (hw : ∀ d ∈ tables_1, d.before a0 Z = true) (a1 : Addr) (a2 : Addr) (h0 : Heap) (n0 : Nat) (O0 : Old Z n0 h0) :
    Met l Z (⟨"java/util/Objects", "requireNonNull", "(Ljava/lang/Object;Ljava/lang/String;)Ljava/lang/Object;"⟩ : MethodName) jdk_31_method_11_code 2 (some (.object "java/lang/Object")) ({ frames := 0, cells := 0, slots := 0, locals := 0 } : Room) [] #[(.ref a1), (.ref a2)] h0 (Q13 Z a1 a2 h0 n0) := by
  refine met_of (L0 := #[.val (.ref a1), .val (.ref a2)]) (plainFor_of_name pn7) (fun m => by first | (simp [entryFrame, mkF, argsToLocals, Value.category]; done) | rfl) ?_
  intro p e s m below meth c T0 hx hby hml hown hnm hret hlk hZ X0 e0
  have N0 := Fr.nil n0
  refine o_aloadN X0 hx (hb hby d13_0) rfl rfl rfl ?_
  refine o_ifnonnullYes X0 hx (hb hby d13_1) (by decide) (pc' := 13) (by decide) ?_
  refine o_aloadN X0 hx (hb hby d13_13) rfl rfl rfl ?_
  exact o_ret X0 hx hlk (t := (.object "java/lang/Object")) hret rfl (Or.inr (Or.inr (Or.inr (Or.inr ⟨rfl, rfl, rfl⟩)))) (hb hby d13_14) (by decide) (by decide) e0 ⟨rfl, N0, rfl⟩
def Q35 (Z : State) (a1 : Addr) (h0 : Heap) (n0 : Nat) (v : Option Value) (h : Heap) (L : List Loc) : Prop := v = none ∧ Fr n0 L ∧ h = h0
set_option maxRecDepth 65536 in
set_option maxHeartbeats 40000000 in
theorem rm35 (l : Launch) (Z : State) (a0 : Array Value) (hw : ∀ d ∈ tables_1, d.before a0 Z = true) (a1 : Addr) (h0 : Heap) (n0 : Nat) (O0 : Old Z n0 h0) :
    Met l Z (⟨"java/util/ImmutableCollections$AbstractImmutableCollection", "<init>", "()V"⟩ : MethodName) jdk_47_method_1_code 1 none ({ frames := 2, cells := 0, slots := 0, locals := 24 } : Room) [] #[(.ref a1)] h0 (Q35 Z a1 h0 n0) := by
  refine met_of (L0 := #[.val (.ref a1)]) (plainFor_of_name pn8) (fun m => by first | (simp [entryFrame, mkF, argsToLocals, Value.category]; done) | rfl) ?_
  intro p e s m below meth c T0 hx hby hml hown hnm hret hlk hZ X0 e0
  have N0 := Fr.nil n0
  refine o_aloadN X0 hx (hb hby d35_0) rfl rfl rfl ?_
  refine o_special X0 hx hZ rfl rfl hown (wd236 hw) (wd13 hw) (by decide) (a := a1) (rm3 l Z a0 hw a1 h0 n0 O0 ) (wd17 hw) (wd16 hw) e0 (by rw [hml]; rfl) (argsL := []) (rest := []) (W := 0) pd2 rfl rfl rfl rfl (hb hby d35_1) (by decide) (by decide) (by decide) (by decide) (cells' := 0) (slots' := 0) rfl rfl rfl fun v1 T1 h1 Lc1 X1 e1 hq1 => ?_
  obtain ⟨rfl, N1q, K1⟩ := hq1
  have N1 := Fr.app N0 N1q
  have e1_2 : T1.heap = h0 := e1.trans K1
  show Goes p.tables e below (Ends s (Q35 Z a1 h0 n0) ({ frames := 2, cells := 0, slots := 0, locals := 24 } : Room).cells ({ frames := 2, cells := 0, slots := 0, locals := 24 } : Room).slots) (T1.setTop (mkF m 4 #[.val (.ref a1)] []))
  exact o_retV X1 hx hlk hret (hb hby d35_4) (by decide) (by decide) e1_2 ⟨rfl, N1, rfl⟩
def Q34 (Z : State) (a1 : Addr) (h0 : Heap) (n0 : Nat) (v : Option Value) (h : Heap) (L : List Loc) : Prop := v = none ∧ Fr n0 L ∧ h = h0
set_option maxRecDepth 65536 in
set_option maxHeartbeats 40000000 in
theorem rm34 (l : Launch) (Z : State) (a0 : Array Value) (hw : ∀ d ∈ tables_1, d.before a0 Z = true) (a1 : Addr) (h0 : Heap) (n0 : Nat) (O0 : Old Z n0 h0) :
    Met l Z (⟨"java/util/ImmutableCollections$AbstractImmutableList", "<init>", "()V"⟩ : MethodName) jdk_46_method_1_code 1 none ({ frames := 3, cells := 0, slots := 0, locals := 36 } : Room) [] #[(.ref a1)] h0 (Q34 Z a1 h0 n0) := by
  refine met_of (L0 := #[.val (.ref a1)]) (plainFor_of_name pn9) (fun m => by first | (simp [entryFrame, mkF, argsToLocals, Value.category]; done) | rfl) ?_
  intro p e s m below meth c T0 hx hby hml hown hnm hret hlk hZ X0 e0
  have N0 := Fr.nil n0
  refine o_aloadN X0 hx (hb hby d34_0) rfl rfl rfl ?_
  refine o_special X0 hx hZ rfl rfl hown (wd230 hw) (wd231 hw) (by decide) (a := a1) (rm35 l Z a0 hw a1 h0 n0 O0 ) (wd235 hw) (wd234 hw) e0 (by rw [hml]; rfl) (argsL := []) (rest := []) (W := 0) pd2 rfl rfl rfl rfl (hb hby d34_1) (by decide) (by decide) (by decide) (by decide) (cells' := 0) (slots' := 0) rfl rfl rfl fun v1 T1 h1 Lc1 X1 e1 hq1 => ?_
  obtain ⟨rfl, N1q, K1⟩ := hq1
  have N1 := Fr.app N0 N1q
  have e1_2 : T1.heap = h0 := e1.trans K1
  show Goes p.tables e below (Ends s (Q34 Z a1 h0 n0) ({ frames := 3, cells := 0, slots := 0, locals := 36 } : Room).cells ({ frames := 3, cells := 0, slots := 0, locals := 36 } : Room).slots) (T1.setTop (mkF m 4 #[.val (.ref a1)] []))
  exact o_retV X1 hx hlk hret (hb hby d34_4) (by decide) (by decide) e1_2 ⟨rfl, N1, rfl⟩
def Q37 (Z : State) (a1 : Addr) (e1 : Addr) (em : Addr) (h0 : Heap) (n0 : Nat) (v : Option Value) (h : Heap) (L : List Loc) : Prop := v = none ∧ Fr n0 L ∧ Keep h0 h [a1] ∧ Exa Z h a1 "java/util/ImmutableCollections$List12"
set_option maxRecDepth 65536 in
set_option maxHeartbeats 40000000 in
theorem rm37 (l : Launch) (Z : State) (a0 : Array Value) (hw : ∀ d ∈ tables_1, d.before a0 Z = true) (a1 : Addr) (e1 : Addr) (em : Addr) (h0 : Heap) (n0 : Nat) (O0 : Old Z n0 h0) (E_a1 : Exa Z h0 a1 "java/util/ImmutableCollections$List12") (F_a1_e0 : Fld Z h0 a1 "java/util/ImmutableCollections$List12" "e0" "Ljava/lang/Object;" .null) (F_a1_e1 : Fld Z h0 a1 "java/util/ImmutableCollections$List12" "e1" "Ljava/lang/Object;" .null) (S_EMPTY : Sta Z Z.heap "java/util/ImmutableCollections" "EMPTY" "Ljava/lang/Object;" (.ref em)) (na1 : n0 ≤ a1) :
    Met l Z (⟨"java/util/ImmutableCollections$List12", "<init>", "(Ljava/lang/Object;)V"⟩ : MethodName) jdk_44_method_1_code 2 none ({ frames := 4, cells := 0, slots := 0, locals := 48 } : Room) [] #[(.ref a1), (.ref e1)] h0 (Q37 Z a1 e1 em h0 n0) := by
  refine met_of (L0 := #[.val (.ref a1), .val (.ref e1)]) (plainFor_of_name pn10) (fun m => by first | (simp [entryFrame, mkF, argsToLocals, Value.category]; done) | rfl) ?_
  intro p e s m below meth c T0 hx hby hml hown hnm hret hlk hZ X0 e0
  have N0 := Fr.nil n0
  have KK0 : Keep h0 h0 [a1] := Keep.refl _ _
  refine o_aloadN X0 hx (hb hby d37_0) rfl rfl rfl ?_
  refine o_special X0 hx hZ rfl rfl hown (wd224 hw) (wd225 hw) (by decide) (a := a1) (rm34 l Z a0 hw a1 h0 n0 O0 ) (wd229 hw) (wd228 hw) e0 (by rw [hml]; rfl) (argsL := []) (rest := []) (W := 0) pd2 rfl rfl rfl rfl (hb hby d37_1) (by decide) (by decide) (by decide) (by decide) (cells' := 0) (slots' := 0) rfl rfl rfl fun v1 T1 h1 Lc1 X1 e1_2 hq1 => ?_
  obtain ⟨rfl, N1q, K1⟩ := hq1
  have N1 := Fr.app N0 N1q
  have e1_3 : T1.heap = h0 := e1_2.trans K1
  show Goes p.tables e below (Ends s (Q37 Z a1 e1 em h0 n0) ({ frames := 4, cells := 0, slots := 0, locals := 48 } : Room).cells ({ frames := 4, cells := 0, slots := 0, locals := 48 } : Room).slots) (T1.setTop (mkF m 4 #[.val (.ref a1), .val (.ref e1)] []))
  refine o_aloadN X1 hx (hb hby d37_4) rfl rfl rfl ?_
  refine o_aloadN X1 hx (hb hby d37_5) rfl rfl rfl ?_
  refine o_static X1 hx hZ hown (wd238 hw) (wd239 hw) (by decide) (rm36 l Z a0 hw e1 h0 n0 O0 ) (wd240 hw) (wd96 hw) e1_3 (by rw [hml]; rfl) (argsL := [(.ref e1)]) (rest := [(.ref a1)]) (W := 1) pd7 rfl rfl rfl rfl (hb hby d37_6) (by decide) (by decide) (by decide) (by decide) (cells' := 0) (slots' := 0) rfl rfl rfl fun v6 T6 h6 Lc6 X6 e6 hq6 => ?_
  obtain ⟨rfl, N6q, K6⟩ := hq6
  have N6 := Fr.app N1 N6q
  have e6_2 : T6.heap = h0 := e6.trans K6
  show Goes p.tables e below (Ends s (Q37 Z a1 e1 em h0 n0) ({ frames := 4, cells := 0, slots := 0, locals := 48 } : Room).cells ({ frames := 4, cells := 0, slots := 0, locals := 48 } : Room).slots) (T6.setTop (mkF m 9 #[.val (.ref a1), .val (.ref e1)] [(.ref e1), (.ref a1)]))
  refine o_putF X6 hx hZ hown (host := "") (Or.inl (wd241 hw)) Via.refl e6_2 F_a1_e0 E_a1 (Or.inr ⟨(wd242 hw), rfl, hnm⟩) (wd218 hw) (ty := (.object "java/lang/Object")) (by decide) rfl rfl (hb hby d37_9) rfl fun T9 h9 X9 e9 W9 => ?_
  have F9 : Fld Z h9 a1 "java/util/ImmutableCollections$List12" "e0" "Ljava/lang/Object;" (.ref e1) := F_a1_e0.same W9
  have N9 := Fr.snoc X9 N6 na1
  have KW9_h0 : Keep h0 h9 [a1] := KK0.wr W9 (Or.inl (List.mem_of_getElem? (i := 0) rfl))
  have OW9 : Old Z n0 h9 := O0.wr W9 na1
  refine o_aloadN X9 hx (hb hby d37_12) rfl rfl rfl ?_
  refine o_getS X9 hx hZ hown (Or.inr (wd248 hw)) Via.refl e9 (Sta.ext OW9.2 S_EMPTY) (hb hby d37_13) rfl fun T13 X13 e13 => ?_
  have fF16 : Fld Z h9 a1 "java/util/ImmutableCollections$List12" "e1" "Ljava/lang/Object;" .null := (F_a1_e1.other W9 (Or.inr (slot_ne (Z := Z) (a0 := a0) (Or.inr (wd244 hw)) (Or.inr (wd242 hw)) (by decide) (t := (.object "java/lang/Object")) (t' := (.object "java/lang/Object")) (by decide) (by decide))))
  have fE16 : Exa Z h9 a1 "java/util/ImmutableCollections$List12" := (E_a1.wr W9)
  refine o_putF X13 hx hZ hown (host := "") (Or.inl (wd243 hw)) Via.refl e13 fF16 fE16 (Or.inr ⟨(wd244 hw), rfl, hnm⟩) (wd218 hw) (ty := (.object "java/lang/Object")) (by decide) rfl rfl (hb hby d37_16) rfl fun T16 h16 X16 e16 W16 => ?_
  have F16 : Fld Z h16 a1 "java/util/ImmutableCollections$List12" "e1" "Ljava/lang/Object;" (.ref em) := fF16.same W16
  have N16 := Fr.snoc X16 N9 na1
  have KW16_h0 : Keep h0 h16 [a1] := KW9_h0.wr W16 (Or.inl (List.mem_of_getElem? (i := 0) rfl))
  have OW16 : Old Z n0 h16 := OW9.wr W16 na1
  have fE19 : Exa Z h16 a1 "java/util/ImmutableCollections$List12" := (fE16.wr W16)
  exact o_retV X16 hx hlk hret (hb hby d37_19) (by decide) (by decide) e16 ⟨rfl, N16, KW16_h0, fE19⟩
def Q33 (Z : State) (a1 : Addr) (e1 : Addr) (e2 : Addr) (h0 : Heap) (n0 : Nat) (v : Option Value) (h : Heap) (L : List Loc) : Prop := v = none ∧ Fr n0 L ∧ Keep h0 h [a1] ∧ Exa Z h a1 "java/util/ImmutableCollections$List12"
set_option maxRecDepth 65536 in
set_option maxHeartbeats 40000000 in
theorem rm33 (l : Launch) (Z : State) (a0 : Array Value) (hw : ∀ d ∈ tables_1, d.before a0 Z = true) (a1 : Addr) (e1 : Addr) (e2 : Addr) (h0 : Heap) (n0 : Nat) (O0 : Old Z n0 h0) (E_a1 : Exa Z h0 a1 "java/util/ImmutableCollections$List12") (F_a1_e0 : Fld Z h0 a1 "java/util/ImmutableCollections$List12" "e0" "Ljava/lang/Object;" .null) (F_a1_e1 : Fld Z h0 a1 "java/util/ImmutableCollections$List12" "e1" "Ljava/lang/Object;" .null) (na1 : n0 ≤ a1) :
    Met l Z (⟨"java/util/ImmutableCollections$List12", "<init>", "(Ljava/lang/Object;Ljava/lang/Object;)V"⟩ : MethodName) jdk_44_method_2_code 3 none ({ frames := 4, cells := 0, slots := 0, locals := 48 } : Room) [] #[(.ref a1), (.ref e1), (.ref e2)] h0 (Q33 Z a1 e1 e2 h0 n0) := by
  refine met_of (L0 := #[.val (.ref a1), .val (.ref e1), .val (.ref e2)]) (plainFor_of_name pn10) (fun m => by first | (simp [entryFrame, mkF, argsToLocals, Value.category]; done) | rfl) ?_
  intro p e s m below meth c T0 hx hby hml hown hnm hret hlk hZ X0 e0
  have N0 := Fr.nil n0
  have KK0 : Keep h0 h0 [a1] := Keep.refl _ _
  refine o_aloadN X0 hx (hb hby d33_0) rfl rfl rfl ?_
  refine o_special X0 hx hZ rfl rfl hown (wd224 hw) (wd225 hw) (by decide) (a := a1) (rm34 l Z a0 hw a1 h0 n0 O0 ) (wd229 hw) (wd228 hw) e0 (by rw [hml]; rfl) (argsL := []) (rest := []) (W := 0) pd2 rfl rfl rfl rfl (hb hby d33_1) (by decide) (by decide) (by decide) (by decide) (cells' := 0) (slots' := 0) rfl rfl rfl fun v1 T1 h1 Lc1 X1 e1_2 hq1 => ?_
  obtain ⟨rfl, N1q, K1⟩ := hq1
  have N1 := Fr.app N0 N1q
  have e1_3 : T1.heap = h0 := e1_2.trans K1
  show Goes p.tables e below (Ends s (Q33 Z a1 e1 e2 h0 n0) ({ frames := 4, cells := 0, slots := 0, locals := 48 } : Room).cells ({ frames := 4, cells := 0, slots := 0, locals := 48 } : Room).slots) (T1.setTop (mkF m 4 #[.val (.ref a1), .val (.ref e1), .val (.ref e2)] []))
  refine o_aloadN X1 hx (hb hby d33_4) rfl rfl rfl ?_
  refine o_aloadN X1 hx (hb hby d33_5) rfl rfl rfl ?_
  refine o_static X1 hx hZ hown (wd238 hw) (wd239 hw) (by decide) (rm36 l Z a0 hw e1 h0 n0 O0 ) (wd240 hw) (wd96 hw) e1_3 (by rw [hml]; rfl) (argsL := [(.ref e1)]) (rest := [(.ref a1)]) (W := 1) pd7 rfl rfl rfl rfl (hb hby d33_6) (by decide) (by decide) (by decide) (by decide) (cells' := 0) (slots' := 0) rfl rfl rfl fun v6 T6 h6 Lc6 X6 e6 hq6 => ?_
  obtain ⟨rfl, N6q, K6⟩ := hq6
  have N6 := Fr.app N1 N6q
  have e6_2 : T6.heap = h0 := e6.trans K6
  show Goes p.tables e below (Ends s (Q33 Z a1 e1 e2 h0 n0) ({ frames := 4, cells := 0, slots := 0, locals := 48 } : Room).cells ({ frames := 4, cells := 0, slots := 0, locals := 48 } : Room).slots) (T6.setTop (mkF m 9 #[.val (.ref a1), .val (.ref e1), .val (.ref e2)] [(.ref e1), (.ref a1)]))
  refine o_putF X6 hx hZ hown (host := "") (Or.inl (wd241 hw)) Via.refl e6_2 F_a1_e0 E_a1 (Or.inr ⟨(wd242 hw), rfl, hnm⟩) (wd218 hw) (ty := (.object "java/lang/Object")) (by decide) rfl rfl (hb hby d33_9) rfl fun T9 h9 X9 e9 W9 => ?_
  have F9 : Fld Z h9 a1 "java/util/ImmutableCollections$List12" "e0" "Ljava/lang/Object;" (.ref e1) := F_a1_e0.same W9
  have N9 := Fr.snoc X9 N6 na1
  have KW9_h0 : Keep h0 h9 [a1] := KK0.wr W9 (Or.inl (List.mem_of_getElem? (i := 0) rfl))
  have OW9 : Old Z n0 h9 := O0.wr W9 na1
  refine o_aloadN X9 hx (hb hby d33_12) rfl rfl rfl ?_
  refine o_aloadN X9 hx (hb hby d33_13) rfl rfl rfl ?_
  refine o_static X9 hx hZ hown (wd238 hw) (wd239 hw) (by decide) (rm36 l Z a0 hw e2 h9 n0 OW9 ) (wd240 hw) (wd96 hw) e9 (by rw [hml]; rfl) (argsL := [(.ref e2)]) (rest := [(.ref a1)]) (W := 1) pd7 rfl rfl rfl rfl (hb hby d33_14) (by decide) (by decide) (by decide) (by decide) (cells' := 0) (slots' := 0) rfl rfl rfl fun v14 T14 h14 Lc14 X14 e14 hq14 => ?_
  obtain ⟨rfl, N14q, K14⟩ := hq14
  have N14 := Fr.app N9 N14q
  have e14_2 : T14.heap = h9 := e14.trans K14
  show Goes p.tables e below (Ends s (Q33 Z a1 e1 e2 h0 n0) ({ frames := 4, cells := 0, slots := 0, locals := 48 } : Room).cells ({ frames := 4, cells := 0, slots := 0, locals := 48 } : Room).slots) (T14.setTop (mkF m 17 #[.val (.ref a1), .val (.ref e1), .val (.ref e2)] [(.ref e2), (.ref a1)]))
  have fF17 : Fld Z h9 a1 "java/util/ImmutableCollections$List12" "e1" "Ljava/lang/Object;" .null := (F_a1_e1.other W9 (Or.inr (slot_ne (Z := Z) (a0 := a0) (Or.inr (wd244 hw)) (Or.inr (wd242 hw)) (by decide) (t := (.object "java/lang/Object")) (t' := (.object "java/lang/Object")) (by decide) (by decide))))
  have fE17 : Exa Z h9 a1 "java/util/ImmutableCollections$List12" := (E_a1.wr W9)
  refine o_putF X14 hx hZ hown (host := "") (Or.inl (wd243 hw)) Via.refl e14_2 fF17 fE17 (Or.inr ⟨(wd244 hw), rfl, hnm⟩) (wd218 hw) (ty := (.object "java/lang/Object")) (by decide) rfl rfl (hb hby d33_17) rfl fun T17 h17 X17 e17 W17 => ?_
  have F17 : Fld Z h17 a1 "java/util/ImmutableCollections$List12" "e1" "Ljava/lang/Object;" (.ref e2) := fF17.same W17
  have N17 := Fr.snoc X17 N14 na1
  have KW17_h0 : Keep h0 h17 [a1] := KW9_h0.wr W17 (Or.inl (List.mem_of_getElem? (i := 0) rfl))
  have OW17 : Old Z n0 h17 := OW9.wr W17 na1
  have fE20 : Exa Z h17 a1 "java/util/ImmutableCollections$List12" := (fE17.wr W17)
  exact o_retV X17 hx hlk hret (hb hby d33_20) (by decide) (by decide) e17 ⟨rfl, N17, KW17_h0, fE20⟩
def Q12 (Z : State) (el : Addr) (h0 : Heap) (n0 : Nat) (v : Option Value) (h : Heap) (L : List Loc) : Prop := v = some (.ref el) ∧ Fr n0 L ∧ h = h0
set_option maxRecDepth 65536 in
set_option maxHeartbeats 40000000 in
theorem rm12 (l : Launch) (Z : State) (a0 : Array Value) (hw : ∀ d ∈ tables_1, d.before a0 Z = true) (el : Addr) (h0 : Heap) (n0 : Nat) (O0 : Old Z n0 h0) (S_EMPTY_LIST : Sta Z Z.heap "java/util/ImmutableCollections" "EMPTY_LIST" "Ljava/util/ImmutableCollections$ListN;" (.ref el)) :
    Met l Z (⟨"java/util/List", "of", "()Ljava/util/List;"⟩ : MethodName) jdk_40_method_36_code 0 (some (.object "java/util/List")) ({ frames := 0, cells := 0, slots := 0, locals := 0 } : Room) [] #[] h0 (Q12 Z el h0 n0) := by
  refine met_of (L0 := #[]) (plainFor_of_name pn11) (fun m => by first | (simp [entryFrame, mkF, argsToLocals, Value.category]; done) | rfl) ?_
  intro p e s m below meth c T0 hx hby hml hown hnm hret hlk hZ X0 e0
  have N0 := Fr.nil n0
  refine o_getS X0 hx hZ hown (host := "") (Or.inl (wd90 hw)) Via.refl e0 (Sta.ext O0.2 S_EMPTY_LIST) (hb hby d12_0) rfl fun T0_2 X0_2 e0_2 => ?_
  exact o_ret X0_2 hx hlk (t := (.object "java/util/List")) hret rfl (Or.inr (Or.inr (Or.inr (Or.inr ⟨rfl, rfl, rfl⟩)))) (hb hby d12_3) (by decide) (by decide) e0_2 ⟨rfl, N0, rfl⟩
def Qiz0 (Z : State) (a1 : Addr) (h0 : Heap) (n0 : Nat) (v : Option Value) (h : Heap) (L : List Loc) : Prop := v = some (.int (1 : Int32)) ∧ Fr n0 L ∧ h = h0
set_option maxRecDepth 65536 in
set_option maxHeartbeats 40000000 in
theorem rmiz0 (l : Launch) (Z : State) (a0 : Array Value) (hw : ∀ d ∈ tables_1, d.before a0 Z = true) (a1 : Addr) (h0 : Heap) (n0 : Nat) (O0 : Old Z n0 h0) (F_a1_size : Fld Z h0 a1 "java/util/ArrayList" "size" "I" (.int (0 : Int32))) :
    Met l Z (⟨"java/util/ArrayList", "isEmpty", "()Z"⟩ : MethodName) jdk_38_method_9_code 1 (some .boolean) ({ frames := 0, cells := 0, slots := 0, locals := 0 } : Room) [] #[(.ref a1)] h0 (Qiz0 Z a1 h0 n0) := by
  refine met_of (L0 := #[.val (.ref a1)]) (plainFor_of_name pn5) (fun m => by first | (simp [entryFrame, mkF, argsToLocals, Value.category]; done) | rfl) ?_
  intro p e s m below meth c T0 hx hby hml hown hnm hret hlk hZ X0 e0
  have N0 := Fr.nil n0
  refine o_aloadN X0 hx (hb hby d11_0) rfl rfl rfl ?_
  refine o_getF X0 hx hZ hown (host := "") (Or.inl (wd85 hw)) Via.refl e0 F_a1_size (hb hby d11_1) rfl fun T1 X1 e1 => ?_
  refine o_ifNo X1 hx (hb hby d11_4) ((if0 _ _).trans (teq (by decide)).2) rfl ?_
  refine o_iconst X1 hx (hb hby d11_7) (v := (1 : Int32)) rfl rfl ?_
  refine o_goto X1 hx (hb hby d11_8) (by decide) (pc' := 12) (by decide) ?_
  exact o_ret X1 hx hlk (t := .boolean) hret rfl (Or.inl ⟨rfl, by decide, _, rfl⟩) (hb hby d11_12) (by decide) (by decide) e1 ⟨rfl, N0, rfl⟩
def Qiz1 (Z : State) (a1 : Addr) (h0 : Heap) (n0 : Nat) (v : Option Value) (h : Heap) (L : List Loc) : Prop := v = some (.int (0 : Int32)) ∧ Fr n0 L ∧ h = h0
set_option maxRecDepth 65536 in
set_option maxHeartbeats 40000000 in
theorem rmiz1 (l : Launch) (Z : State) (a0 : Array Value) (hw : ∀ d ∈ tables_1, d.before a0 Z = true) (a1 : Addr) (h0 : Heap) (n0 : Nat) (O0 : Old Z n0 h0) (F_a1_size : Fld Z h0 a1 "java/util/ArrayList" "size" "I" (.int (1 : Int32))) :
    Met l Z (⟨"java/util/ArrayList", "isEmpty", "()Z"⟩ : MethodName) jdk_38_method_9_code 1 (some .boolean) ({ frames := 0, cells := 0, slots := 0, locals := 0 } : Room) [] #[(.ref a1)] h0 (Qiz1 Z a1 h0 n0) := by
  refine met_of (L0 := #[.val (.ref a1)]) (plainFor_of_name pn5) (fun m => by first | (simp [entryFrame, mkF, argsToLocals, Value.category]; done) | rfl) ?_
  intro p e s m below meth c T0 hx hby hml hown hnm hret hlk hZ X0 e0
  have N0 := Fr.nil n0
  refine o_aloadN X0 hx (hb hby d11_0) rfl rfl rfl ?_
  refine o_getF X0 hx hZ hown (host := "") (Or.inl (wd85 hw)) Via.refl e0 F_a1_size (hb hby d11_1) rfl fun T1 X1 e1 => ?_
  refine o_ifYes X1 hx (hb hby d11_4) ((if0 _ _).trans (feq (by decide)).2) (by decide) (pc' := 11) (by decide) ?_
  refine o_iconst X1 hx (hb hby d11_11) (v := (0 : Int32)) rfl rfl ?_
  exact o_ret X1 hx hlk (t := .boolean) hret rfl (Or.inl ⟨rfl, by decide, _, rfl⟩) (hb hby d11_12) (by decide) (by decide) e1 ⟨rfl, N0, rfl⟩
def Qiz2 (Z : State) (a1 : Addr) (h0 : Heap) (n0 : Nat) (v : Option Value) (h : Heap) (L : List Loc) : Prop := v = some (.int (0 : Int32)) ∧ Fr n0 L ∧ h = h0
set_option maxRecDepth 65536 in
set_option maxHeartbeats 40000000 in
theorem rmiz2 (l : Launch) (Z : State) (a0 : Array Value) (hw : ∀ d ∈ tables_1, d.before a0 Z = true) (a1 : Addr) (h0 : Heap) (n0 : Nat) (O0 : Old Z n0 h0) (F_a1_size : Fld Z h0 a1 "java/util/ArrayList" "size" "I" (.int (2 : Int32))) :
    Met l Z (⟨"java/util/ArrayList", "isEmpty", "()Z"⟩ : MethodName) jdk_38_method_9_code 1 (some .boolean) ({ frames := 0, cells := 0, slots := 0, locals := 0 } : Room) [] #[(.ref a1)] h0 (Qiz2 Z a1 h0 n0) := by
  refine met_of (L0 := #[.val (.ref a1)]) (plainFor_of_name pn5) (fun m => by first | (simp [entryFrame, mkF, argsToLocals, Value.category]; done) | rfl) ?_
  intro p e s m below meth c T0 hx hby hml hown hnm hret hlk hZ X0 e0
  have N0 := Fr.nil n0
  refine o_aloadN X0 hx (hb hby d11_0) rfl rfl rfl ?_
  refine o_getF X0 hx hZ hown (host := "") (Or.inl (wd85 hw)) Via.refl e0 F_a1_size (hb hby d11_1) rfl fun T1 X1 e1 => ?_
  refine o_ifYes X1 hx (hb hby d11_4) ((if0 _ _).trans (feq (by decide)).2) (by decide) (pc' := 11) (by decide) ?_
  refine o_iconst X1 hx (hb hby d11_11) (v := (0 : Int32)) rfl rfl ?_
  exact o_ret X1 hx hlk (t := .boolean) hret rfl (Or.inl ⟨rfl, by decide, _, rfl⟩) (hb hby d11_12) (by decide) (by decide) e1 ⟨rfl, N0, rfl⟩
def Qmi1 (Z : State)  (h0 : Heap) (n0 : Nat) (v : Option Value) (h : Heap) (L : List Loc) : Prop := v = some (.int (1 : Int32)) ∧ Fr n0 L ∧ h = h0
set_option maxRecDepth 65536 in
set_option maxHeartbeats 40000000 in
theorem rmmi1 (l : Launch) (Z : State) (a0 : Array Value) (hw : ∀ d ∈ tables_1, d.before a0 Z = true)  (h0 : Heap) (n0 : Nat) (O0 : Old Z n0 h0) :
    Met l Z (⟨"java/lang/Math", "min", "(II)I"⟩ : MethodName) jdk_29_method_69_code 2 (some .int) ({ frames := 0, cells := 0, slots := 0, locals := 0 } : Room) [] #[(.int (10 : Int32)), (.int (1 : Int32))] h0 (Qmi1 Z  h0 n0) := by
  refine met_of (L0 := #[.val (.int (10 : Int32)), .val (.int (1 : Int32))]) (Jvm.Free.JP.mathPlain rfl (by decide +kernel)) (fun m => by first | (simp [entryFrame, mkF, argsToLocals, Value.category]; done) | rfl) ?_
  intro p e s m below meth c T0 hx hby hml hown hnm hret hlk hZ X0 e0
  have N0 := Fr.nil n0
  refine o_iloadN X0 hx (hb hby d31_0) rfl rfl ?_
  refine o_iloadN X0 hx (hb hby d31_1) rfl rfl ?_
  refine o_icmpYes X0 hx (hb hby d31_2) (tlt (by decide)).2.2.1 (by decide) (pc' := 9) (by decide) ?_
  refine o_iloadN X0 hx (hb hby d31_9) rfl rfl ?_
  exact o_ret X0 hx hlk (t := .int) hret rfl (Or.inl ⟨rfl, by decide, _, rfl⟩) (hb hby d31_10) (by decide) (by decide) e0 ⟨rfl, N0, rfl⟩
def Qc3_1 (Z : State) (b1 : Addr) (k1 : ClassId) (e1 : Addr) (mo : Addr) (h0 : Heap) (n0 : Nat) (v : Option Value) (h : Heap) (L : List Loc) : Prop := ∃ t : Addr, ∃ k : ClassId, v = some (.ref t) ∧ Fr n0 L ∧ Keep h0 h [] ∧ (h0.size ≤ t) ∧ Arv Z h t k (.object "java/lang/Object") (1 : Int32) [(.ref e1)] .null
set_option maxRecDepth 65536 in
set_option maxHeartbeats 40000000 in
theorem rmc3_1 (l : Launch) (Z : State) (a0 : Array Value) (hw : ∀ d ∈ tables_1, d.before a0 Z = true) (b1 : Addr) (k1 : ClassId) (e1 : Addr) (mo : Addr) (h0 : Heap) (n0 : Nat) (O0 : Old Z n0 h0) (E_b1 : Exa Z h0 b1 "[Ljava/lang/Object;") (A_b1 : Arv Z h0 b1 k1 (.object "java/lang/Object") (10 : Int32) [(.ref e1), .null, .null, .null, .null, .null, .null, .null, .null, .null] .null) (E_e1 : Exa Z h0 e1 "com/example/hybrev/hybrev/RevocationEvent") (hM : Mir Z "[Ljava/lang/Object;" mo) :
    Met l Z (⟨"java/util/Arrays", "copyOf", "([Ljava/lang/Object;ILjava/lang/Class;)[Ljava/lang/Object;"⟩ : MethodName) jdk_65_method_120_code 4 (some (.array (.object "java/lang/Object"))) ({ frames := 1, cells := 1, slots := 1, locals := 27 } : Room) [] #[(.ref b1), (.int (1 : Int32)), (.ref mo)] h0 (Qc3_1 Z b1 k1 e1 mo h0 n0) := by
  refine met_of (L0 := #[.val (.ref b1), .val (.int (1 : Int32)), .val (.ref mo), .unset]) (plainFor_of_name pn12) (fun m => by first | (simp [entryFrame, mkF, argsToLocals, Value.category]; done) | rfl) ?_
  intro p e s m below meth c T0 hx hby hml hown hnm hret hlk hZ X0 e0
  have N0 := Fr.nil n0
  have KK0 : Keep h0 h0 [] := Keep.refl _ _
  refine o_aloadN X0 hx (hb hby d30_0) rfl rfl rfl ?_
  refine o_ldcM X0 hx hZ hown (wd205 hw) hM e0 (hb hby d30_1) rfl fun T1 X1 e1_2 => ?_
  refine o_acmp X1 hx (hb hby d30_3) rfl rfl (same := true) (decide_eq_true rfl) (by decide) (pc' := 6) (by decide) ?_
  refine o_iloadN X1 hx (hb hby d30_6) rfl rfl ?_
  refine o_newRE (ad := "[Ljava/lang/Object;") X1 hx hZ hown (wd206 hw) (wd182 hw) e1_2 (hb hby d30_7) (by decide) (cap := 1) (by decide) (by decide) (by decide) (by decide) (cells' := 1) (slots' := 1) rfl rfl rfl rfl fun T7 h7 k7 b7 g7 X7 e7 E7 A7 Ex7 Ov7 => ?_
  have s_b7_h0 : h0.size ≤ b7 := Nat.le_trans KK0.1 (Nat.le_of_eq g7.symm)
  have n_b7 : n0 ≤ b7 := Nat.le_trans (O0.1 ▸ O0.2.1) (Nat.le_of_eq g7.symm)
  have KE7_h0 : Keep h0 h7 [] := KK0.ext E7
  have OE7 : Old Z n0 h7 := O0.ext E7
  have A_b7 : Arv Z h7 b7 k7 (.object "java/lang/Object") (1 : Int32) [.null] .null := (Arv.new A7 (by decide)).pad (pad_rep [] .null 1)
  refine o_goto X7 hx (hb hby d30_10) (by decide) (pc' := 24) (by decide) ?_
  refine o_astoreN X7 hx (hb hby d30_24) rfl (L' := #[.val (.ref b1), .val (.int (1 : Int32)), .val (.ref mo), .val (.ref b7)]) rfl rfl ?_
  refine o_aloadN X7 hx (hb hby d30_25) rfl rfl rfl ?_
  refine o_iconst X7 hx (hb hby d30_26) (v := (0 : Int32)) rfl rfl ?_
  refine o_aloadN X7 hx (hb hby d30_27) rfl rfl rfl ?_
  refine o_iconst X7 hx (hb hby d30_28) (v := (0 : Int32)) rfl rfl ?_
  refine o_aloadN X7 hx (hb hby d30_29) rfl rfl rfl ?_
  have fA30 : Arv Z h7 b1 k1 (.object "java/lang/Object") (10 : Int32) [(.ref e1), .null, .null, .null, .null, .null, .null, .null, .null, .null] .null := (A_b1.ext E7)
  refine o_alen X7 hx hZ e7 fA30 (hb hby d30_30) rfl ?_
  refine o_iloadN X7 hx (hb hby d30_31) rfl rfl ?_
  refine o_static X7 hx hZ hown (wd207 hw) (wd208 hw) (by decide) (rmmi1 l Z a0 hw  h7 n0 OE7 ) (wd209 hw) (wd179 hw) e7 (by rw [hml]; rfl) (argsL := [(.int (10 : Int32)), (.int (1 : Int32))]) (rest := [(.int (0 : Int32)), (.ref b7), (.int (0 : Int32)), (.ref b1)]) (W := 4) pd3 rfl rfl rfl rfl (hb hby d30_32) (by decide) (by decide) (by decide) (by decide) (cells' := 1) (slots' := 1) rfl rfl rfl fun v32 T32 h32 Lc32 X32 e32 hq32 => ?_
  obtain ⟨rfl, N32q, K32⟩ := hq32
  have N32 := Fr.app N0 N32q
  have e32_2 : T32.heap = h7 := e32.trans K32
  show Goes p.tables e below (Ends s (Qc3_1 Z b1 k1 e1 mo h0 n0) ({ frames := 1, cells := 1, slots := 1, locals := 27 } : Room).cells ({ frames := 1, cells := 1, slots := 1, locals := 27 } : Room).slots) (T32.setTop (mkF m 35 #[.val (.ref b1), .val (.int (1 : Int32)), .val (.ref mo), .val (.ref b7)] [(.int (1 : Int32)), (.int (0 : Int32)), (.ref b7), (.int (0 : Int32)), (.ref b1)]))
  have fE35 : Exa Z h7 e1 "com/example/hybrev/hybrev/RevocationEvent" := (E_e1.ext E7)
  refine o_acopyR X32 hx hZ hown (wd210 hw) (wd213 hw) (wd211 hw) (wd212 hw) e32_2 fA30 A_b7 ⟨rfl, rfl⟩ ⟨own_stoA A_b7 Ov7 (Ins.of_exa fE35 (wd183 hw)), trivial⟩ ⟨by decide, by decide, by decide⟩ (by decide) (by decide) (us := [(.ref e1)]) rfl (by decide) (vd' := [(.ref e1)]) rfl N32 n_b7 (by rw [hml]; rfl) (hb hby d30_35) (by decide) (W := 0) rfl (by decide) rfl fun T35 h35 Lc35 X35 e35 N35 K35 (A35 : Arv Z h35 b7 k7 (.object "java/lang/Object") (1 : Int32) [(.ref e1)] .null) => ?_
  have KK35_h0 : Keep h0 h35 [] := KE7_h0.trans K35 (allS (Or.inr s_b7_h0) all0)
  have OK35 : Old Z n0 h35 := OE7.keep K35 (allS n_b7 all0)
  refine o_aloadN X35 hx (hb hby d30_38) rfl rfl rfl ?_
  exact o_ret X35 hx hlk (t := (.array (.object "java/lang/Object"))) hret rfl (Or.inr (Or.inr (Or.inr (Or.inr ⟨rfl, rfl, rfl⟩)))) (hb hby d30_39) (by decide) (by decide) e35 ⟨b7, k7, rfl, N35, KK35_h0, s_b7_h0, A35⟩
def Qc2_1 (Z : State) (b1 : Addr) (k1 : ClassId) (e1 : Addr) (mo : Addr) (h0 : Heap) (n0 : Nat) (v : Option Value) (h : Heap) (L : List Loc) : Prop := ∃ t : Addr, ∃ k : ClassId, v = some (.ref t) ∧ Fr n0 L ∧ Keep h0 h [] ∧ (h0.size ≤ t) ∧ Arv Z h t k (.object "java/lang/Object") (1 : Int32) [(.ref e1)] .null
set_option maxRecDepth 65536 in
set_option maxHeartbeats 40000000 in
theorem rmc2_1 (l : Launch) (Z : State) (a0 : Array Value) (hw : ∀ d ∈ tables_1, d.before a0 Z = true) (b1 : Addr) (k1 : ClassId) (e1 : Addr) (mo : Addr) (h0 : Heap) (n0 : Nat) (O0 : Old Z n0 h0) (E_b1 : Exa Z h0 b1 "[Ljava/lang/Object;") (A_b1 : Arv Z h0 b1 k1 (.object "java/lang/Object") (10 : Int32) [(.ref e1), .null, .null, .null, .null, .null, .null, .null, .null, .null] .null) (E_e1 : Exa Z h0 e1 "com/example/hybrev/hybrev/RevocationEvent") (hM : Mir Z "[Ljava/lang/Object;" mo) :
    Met l Z (⟨"java/util/Arrays", "copyOf", "([Ljava/lang/Object;I)[Ljava/lang/Object;"⟩ : MethodName) jdk_65_method_119_code 2 (some (.array (.object "java/lang/Object"))) ({ frames := 2, cells := 1, slots := 1, locals := 42 } : Room) [] #[(.ref b1), (.int (1 : Int32))] h0 (Qc2_1 Z b1 k1 e1 mo h0 n0) := by
  refine met_of (L0 := #[.val (.ref b1), .val (.int (1 : Int32))]) (plainFor_of_name pn12) (fun m => by first | (simp [entryFrame, mkF, argsToLocals, Value.category]; done) | rfl) ?_
  intro p e s m below meth c T0 hx hby hml hown hnm hret hlk hZ X0 e0
  have N0 := Fr.nil n0
  have KK0 : Keep h0 h0 [] := Keep.refl _ _
  refine o_aloadN X0 hx (hb hby d29_0) rfl rfl rfl ?_
  refine o_iloadN X0 hx (hb hby d29_1) rfl rfl ?_
  refine o_aloadN X0 hx (hb hby d29_2) rfl rfl rfl ?_
  refine o_gcls X0 hx hZ hown (wd196 hw) (wd197 hw) (wd74 hw) (wd199 hw) (wd198 hw) (wd200 hw) e0 E_b1 hM (by rw [hml]; rfl) (hb hby d29_3) (by decide) (W := 2) rfl (by decide) rfl fun T3 X3 e3 => ?_
  refine o_static X3 hx hZ hown (wd202 hw) (wd203 hw) (by decide) (rmc3_1 l Z a0 hw b1 k1 e1 mo h0 n0 O0 E_b1 A_b1 E_e1 hM) (wd204 hw) (wd194 hw) e3 (by rw [hml]; rfl) (argsL := [(.ref b1), (.int (1 : Int32)), (.ref mo)]) (rest := []) (W := 0) pd8 rfl rfl rfl rfl (hb hby d29_6) (by decide) (by decide) (by decide) (by decide) (cells' := 1) (slots' := 1) rfl rfl rfl fun v6 T6 h6 Lc6 X6 e6 hq6 => ?_
  obtain ⟨t_6, k_6, rfl, N6q, K6, ht_6, qA_6⟩ := hq6
  have N6 := Fr.app N0 N6q
  have s_t_6_h0 : h0.size ≤ t_6 := Nat.le_trans KK0.1 ht_6
  have n_t_6 : n0 ≤ t_6 := Nat.le_trans (O0.1 ▸ O0.2.1) ht_6
  have KK6_h0 : Keep h0 h6 [] := KK0.trans K6 all0
  have OK6 : Old Z n0 h6 := O0.keep K6 all0
  show Goes p.tables e below (Ends s (Qc2_1 Z b1 k1 e1 mo h0 n0) ({ frames := 2, cells := 1, slots := 1, locals := 42 } : Room).cells ({ frames := 2, cells := 1, slots := 1, locals := 42 } : Room).slots) (T6.setTop (mkF m 9 #[.val (.ref b1), .val (.int (1 : Int32))] [(.ref t_6)]))
  exact o_ret X6 hx hlk (t := (.array (.object "java/lang/Object"))) hret rfl (Or.inr (Or.inr (Or.inr (Or.inr ⟨rfl, rfl, rfl⟩)))) (hb hby d29_9) (by decide) (by decide) e6 ⟨t_6, k_6, rfl, N6, KK6_h0, s_t_6_h0, qA_6⟩
def Qta1 (Z : State) (a1 : Addr) (b1 : Addr) (k1 : ClassId) (e1 : Addr) (mo : Addr) (h0 : Heap) (n0 : Nat) (v : Option Value) (h : Heap) (L : List Loc) : Prop := ∃ t : Addr, ∃ k : ClassId, v = some (.ref t) ∧ Fr n0 L ∧ Keep h0 h [] ∧ (h0.size ≤ t) ∧ Arv Z h t k (.object "java/lang/Object") (1 : Int32) [(.ref e1)] .null
set_option maxRecDepth 65536 in
set_option maxHeartbeats 40000000 in
theorem rmta1 (l : Launch) (Z : State) (a0 : Array Value) (hw : ∀ d ∈ tables_1, d.before a0 Z = true) (a1 : Addr) (b1 : Addr) (k1 : ClassId) (e1 : Addr) (mo : Addr) (h0 : Heap) (n0 : Nat) (O0 : Old Z n0 h0) (F_a1_elementData : Fld Z h0 a1 "java/util/ArrayList" "elementData" "[Ljava/lang/Object;" (.ref b1)) (F_a1_size : Fld Z h0 a1 "java/util/ArrayList" "size" "I" (.int (1 : Int32))) (E_b1 : Exa Z h0 b1 "[Ljava/lang/Object;") (A_b1 : Arv Z h0 b1 k1 (.object "java/lang/Object") (10 : Int32) [(.ref e1), .null, .null, .null, .null, .null, .null, .null, .null, .null] .null) (E_e1 : Exa Z h0 e1 "com/example/hybrev/hybrev/RevocationEvent") (hM : Mir Z "[Ljava/lang/Object;" mo) :
    Met l Z (⟨"java/util/ArrayList", "toArray", "()[Ljava/lang/Object;"⟩ : MethodName) jdk_38_method_16_code 1 (some (.array (.object "java/lang/Object"))) ({ frames := 3, cells := 1, slots := 1, locals := 55 } : Room) [] #[(.ref a1)] h0 (Qta1 Z a1 b1 k1 e1 mo h0 n0) := by
  refine met_of (L0 := #[.val (.ref a1)]) (plainFor_of_name pn5) (fun m => by first | (simp [entryFrame, mkF, argsToLocals, Value.category]; done) | rfl) ?_
  intro p e s m below meth c T0 hx hby hml hown hnm hret hlk hZ X0 e0
  have N0 := Fr.nil n0
  have KK0 : Keep h0 h0 [] := Keep.refl _ _
  refine o_aloadN X0 hx (hb hby d28_0) rfl rfl rfl ?_
  refine o_getF X0 hx hZ hown (host := "") (Or.inl (wd24 hw)) Via.refl e0 F_a1_elementData (hb hby d28_1) rfl fun T1 X1 e1_2 => ?_
  refine o_aloadN X1 hx (hb hby d28_4) rfl rfl rfl ?_
  refine o_getF X1 hx hZ hown (host := "") (Or.inl (wd85 hw)) Via.refl e1_2 F_a1_size (hb hby d28_5) rfl fun T5 X5 e5 => ?_
  refine o_static X5 hx hZ hown (wd192 hw) (wd193 hw) (by decide) (rmc2_1 l Z a0 hw b1 k1 e1 mo h0 n0 O0 E_b1 A_b1 E_e1 hM) (wd195 hw) (wd194 hw) e5 (by rw [hml]; rfl) (argsL := [(.ref b1), (.int (1 : Int32))]) (rest := []) (W := 0) pd9 rfl rfl rfl rfl (hb hby d28_8) (by decide) (by decide) (by decide) (by decide) (cells' := 1) (slots' := 1) rfl rfl rfl fun v8 T8 h8 Lc8 X8 e8 hq8 => ?_
  obtain ⟨t_8, k_8, rfl, N8q, K8, ht_8, qA_8⟩ := hq8
  have N8 := Fr.app N0 N8q
  have s_t_8_h0 : h0.size ≤ t_8 := Nat.le_trans KK0.1 ht_8
  have n_t_8 : n0 ≤ t_8 := Nat.le_trans (O0.1 ▸ O0.2.1) ht_8
  have KK8_h0 : Keep h0 h8 [] := KK0.trans K8 all0
  have OK8 : Old Z n0 h8 := O0.keep K8 all0
  show Goes p.tables e below (Ends s (Qta1 Z a1 b1 k1 e1 mo h0 n0) ({ frames := 3, cells := 1, slots := 1, locals := 55 } : Room).cells ({ frames := 3, cells := 1, slots := 1, locals := 55 } : Room).slots) (T8.setTop (mkF m 11 #[.val (.ref a1)] [(.ref t_8)]))
  exact o_ret X8 hx hlk (t := (.array (.object "java/lang/Object"))) hret rfl (Or.inr (Or.inr (Or.inr (Or.inr ⟨rfl, rfl, rfl⟩)))) (hb hby d28_11) (by decide) (by decide) e8 ⟨t_8, k_8, rfl, N8, KK8_h0, s_t_8_h0, qA_8⟩
def Qlof1 (Z : State) (t1 : Addr) (k1 : ClassId) (e1 : Addr) (em : Addr) (h0 : Heap) (n0 : Nat) (v : Option Value) (h : Heap) (L : List Loc) : Prop := ∃ b : Addr, v = some (.ref b) ∧ Fr n0 L ∧ Keep h0 h [] ∧ (h0.size ≤ b) ∧ Exa Z h b "java/util/ImmutableCollections$List12"
set_option maxRecDepth 65536 in
set_option maxHeartbeats 40000000 in
theorem rmlof1 (l : Launch) (Z : State) (a0 : Array Value) (hw : ∀ d ∈ tables_1, d.before a0 Z = true) (t1 : Addr) (k1 : ClassId) (e1 : Addr) (em : Addr) (h0 : Heap) (n0 : Nat) (O0 : Old Z n0 h0) (A_t1 : Arv Z h0 t1 k1 (.object "java/lang/Object") (1 : Int32) [(.ref e1)] .null) (S_EMPTY : Sta Z Z.heap "java/util/ImmutableCollections" "EMPTY" "Ljava/lang/Object;" (.ref em)) :
    Met l Z (⟨"java/util/List", "of", "([Ljava/lang/Object;)Ljava/util/List;"⟩ : MethodName) jdk_40_method_47_code 2 (some (.object "java/util/List")) ({ frames := 5, cells := 1, slots := 2, locals := 62 } : Room) [] #[(.ref t1)] h0 (Qlof1 Z t1 k1 e1 em h0 n0) := by
  refine met_of (L0 := #[.val (.ref t1), .unset]) (plainFor_of_name pn11) (fun m => by first | (simp [entryFrame, mkF, argsToLocals, Value.category]; done) | rfl) ?_
  intro p e s m below meth c T0 hx hby hml hown hnm hret hlk hZ X0 e0
  have N0 := Fr.nil n0
  have KK0 : Keep h0 h0 [] := Keep.refl _ _
  refine o_aloadN X0 hx (hb hby d32_0) rfl rfl rfl ?_
  refine o_alen X0 hx hZ e0 A_t1 (hb hby d32_1) rfl ?_
  refine o_tswIn X0 hx (hb hby d32_2) (by decide) rfl (by decide) (pc' := 34) (by decide) ?_
  refine o_new X0 hx hZ hown (wd217 hw) (wd218 hw) (wd219 hw) e0 (hb hby d32_34) (by decide) (by decide) (cells' := 1) (slots' := 2) rfl rfl rfl fun T34 h34 b34 g34 X34 e34 E34 A34 D34 => ?_
  have s_b34_h0 : h0.size ≤ b34 := Nat.le_trans KK0.1 (Nat.le_of_eq g34.symm)
  have n_b34 : n0 ≤ b34 := Nat.le_trans (O0.1 ▸ O0.2.1) (Nat.le_of_eq g34.symm)
  have KE34_h0 : Keep h0 h34 [] := KK0.ext E34
  have OE34 : Old Z n0 h34 := O0.ext E34
  have Fb34_e0 : Fld Z h34 b34 "java/util/ImmutableCollections$List12" "e0" "Ljava/lang/Object;" .null := D34 (Or.inr (wd242 hw)) (ty := (.object "java/lang/Object")) (by decide)
  have Fb34_e1 : Fld Z h34 b34 "java/util/ImmutableCollections$List12" "e1" "Ljava/lang/Object;" .null := D34 (Or.inr (wd244 hw)) (ty := (.object "java/lang/Object")) (by decide)
  refine o_dup X34 hx (hb hby d32_37) rfl rfl ?_
  refine o_aloadN X34 hx (hb hby d32_38) rfl rfl rfl ?_
  refine o_iconst X34 hx (hb hby d32_39) (v := (0 : Int32)) rfl rfl ?_
  have fA40 : Arv Z h34 t1 k1 (.object "java/lang/Object") (1 : Int32) [(.ref e1)] .null := (A_t1.ext E34)
  refine o_aaload X34 hx hZ e34 fA40 rfl ⟨by decide, by decide⟩ (v := (.ref e1)) rfl (hb hby d32_40) rfl ?_
  refine o_special X34 hx hZ rfl rfl hown (wd245 hw) (wd246 hw) (by decide) (a := b34) (rm37 l Z a0 hw b34 e1 em h34 n0 OE34 A34 Fb34_e0 Fb34_e1 S_EMPTY n_b34) (wd247 hw) (wd219 hw) e34 (by rw [hml]; rfl) (argsL := [(.ref e1)]) (rest := [(.ref b34)]) (W := 1) pd10 rfl rfl rfl rfl (hb hby d32_41) (by decide) (by decide) (by decide) (by decide) (cells' := 1) (slots' := 2) rfl rfl rfl fun v41 T41 h41 Lc41 X41 e41 hq41 => ?_
  obtain ⟨rfl, N41q, K41, qE_41⟩ := hq41
  have N41 := Fr.app N0 N41q
  have KK41_h0 : Keep h0 h41 [] := KE34_h0.trans K41 (allS (Or.inr s_b34_h0) all0)
  have OK41 : Old Z n0 h41 := OE34.keep K41 (allS n_b34 all0)
  show Goes p.tables e below (Ends s (Qlof1 Z t1 k1 e1 em h0 n0) ({ frames := 5, cells := 1, slots := 2, locals := 62 } : Room).cells ({ frames := 5, cells := 1, slots := 2, locals := 62 } : Room).slots) (T41.setTop (mkF m 44 #[.val (.ref t1), .unset] [(.ref b34)]))
  exact o_ret X41 hx hlk (t := (.object "java/util/List")) hret rfl (Or.inr (Or.inr (Or.inr (Or.inr ⟨rfl, rfl, rfl⟩)))) (hb hby d32_44) (by decide) (by decide) e41 ⟨b34, rfl, N41, KK41_h0, s_b34_h0, qE_41⟩
def Qmi2 (Z : State)  (h0 : Heap) (n0 : Nat) (v : Option Value) (h : Heap) (L : List Loc) : Prop := v = some (.int (2 : Int32)) ∧ Fr n0 L ∧ h = h0
set_option maxRecDepth 65536 in
set_option maxHeartbeats 40000000 in
theorem rmmi2 (l : Launch) (Z : State) (a0 : Array Value) (hw : ∀ d ∈ tables_1, d.before a0 Z = true)  (h0 : Heap) (n0 : Nat) (O0 : Old Z n0 h0) :
    Met l Z (⟨"java/lang/Math", "min", "(II)I"⟩ : MethodName) jdk_29_method_69_code 2 (some .int) ({ frames := 0, cells := 0, slots := 0, locals := 0 } : Room) [] #[(.int (10 : Int32)), (.int (2 : Int32))] h0 (Qmi2 Z  h0 n0) := by
  refine met_of (L0 := #[.val (.int (10 : Int32)), .val (.int (2 : Int32))]) (Jvm.Free.JP.mathPlain rfl (by decide +kernel)) (fun m => by first | (simp [entryFrame, mkF, argsToLocals, Value.category]; done) | rfl) ?_
  intro p e s m below meth c T0 hx hby hml hown hnm hret hlk hZ X0 e0
  have N0 := Fr.nil n0
  refine o_iloadN X0 hx (hb hby d31_0) rfl rfl ?_
  refine o_iloadN X0 hx (hb hby d31_1) rfl rfl ?_
  refine o_icmpYes X0 hx (hb hby d31_2) (tlt (by decide)).2.2.1 (by decide) (pc' := 9) (by decide) ?_
  refine o_iloadN X0 hx (hb hby d31_9) rfl rfl ?_
  exact o_ret X0 hx hlk (t := .int) hret rfl (Or.inl ⟨rfl, by decide, _, rfl⟩) (hb hby d31_10) (by decide) (by decide) e0 ⟨rfl, N0, rfl⟩
def Qc3_2 (Z : State) (b1 : Addr) (k1 : ClassId) (e1 : Addr) (e2 : Addr) (mo : Addr) (h0 : Heap) (n0 : Nat) (v : Option Value) (h : Heap) (L : List Loc) : Prop := ∃ t : Addr, ∃ k : ClassId, v = some (.ref t) ∧ Fr n0 L ∧ Keep h0 h [] ∧ (h0.size ≤ t) ∧ Arv Z h t k (.object "java/lang/Object") (2 : Int32) [(.ref e1), (.ref e2)] .null
set_option maxRecDepth 65536 in
set_option maxHeartbeats 40000000 in
theorem rmc3_2 (l : Launch) (Z : State) (a0 : Array Value) (hw : ∀ d ∈ tables_1, d.before a0 Z = true) (b1 : Addr) (k1 : ClassId) (e1 : Addr) (e2 : Addr) (mo : Addr) (h0 : Heap) (n0 : Nat) (O0 : Old Z n0 h0) (E_b1 : Exa Z h0 b1 "[Ljava/lang/Object;") (A_b1 : Arv Z h0 b1 k1 (.object "java/lang/Object") (10 : Int32) [(.ref e1), (.ref e2), .null, .null, .null, .null, .null, .null, .null, .null] .null) (E_e1 : Exa Z h0 e1 "com/example/hybrev/hybrev/RevocationEvent") (E_e2 : Exa Z h0 e2 "com/example/hybrev/hybrev/RevocationEvent") (hM : Mir Z "[Ljava/lang/Object;" mo) :
    Met l Z (⟨"java/util/Arrays", "copyOf", "([Ljava/lang/Object;ILjava/lang/Class;)[Ljava/lang/Object;"⟩ : MethodName) jdk_65_method_120_code 4 (some (.array (.object "java/lang/Object"))) ({ frames := 1, cells := 1, slots := 2, locals := 27 } : Room) [] #[(.ref b1), (.int (2 : Int32)), (.ref mo)] h0 (Qc3_2 Z b1 k1 e1 e2 mo h0 n0) := by
  refine met_of (L0 := #[.val (.ref b1), .val (.int (2 : Int32)), .val (.ref mo), .unset]) (plainFor_of_name pn12) (fun m => by first | (simp [entryFrame, mkF, argsToLocals, Value.category]; done) | rfl) ?_
  intro p e s m below meth c T0 hx hby hml hown hnm hret hlk hZ X0 e0
  have N0 := Fr.nil n0
  have KK0 : Keep h0 h0 [] := Keep.refl _ _
  refine o_aloadN X0 hx (hb hby d30_0) rfl rfl rfl ?_
  refine o_ldcM X0 hx hZ hown (wd205 hw) hM e0 (hb hby d30_1) rfl fun T1 X1 e1_2 => ?_
  refine o_acmp X1 hx (hb hby d30_3) rfl rfl (same := true) (decide_eq_true rfl) (by decide) (pc' := 6) (by decide) ?_
  refine o_iloadN X1 hx (hb hby d30_6) rfl rfl ?_
  refine o_newRE (ad := "[Ljava/lang/Object;") X1 hx hZ hown (wd206 hw) (wd182 hw) e1_2 (hb hby d30_7) (by decide) (cap := 2) (by decide) (by decide) (by decide) (by decide) (cells' := 1) (slots' := 2) rfl rfl rfl rfl fun T7 h7 k7 b7 g7 X7 e7 E7 A7 Ex7 Ov7 => ?_
  have s_b7_h0 : h0.size ≤ b7 := Nat.le_trans KK0.1 (Nat.le_of_eq g7.symm)
  have n_b7 : n0 ≤ b7 := Nat.le_trans (O0.1 ▸ O0.2.1) (Nat.le_of_eq g7.symm)
  have KE7_h0 : Keep h0 h7 [] := KK0.ext E7
  have OE7 : Old Z n0 h7 := O0.ext E7
  have A_b7 : Arv Z h7 b7 k7 (.object "java/lang/Object") (2 : Int32) [.null, .null] .null := (Arv.new A7 (by decide)).pad (pad_rep [] .null 2)
  refine o_goto X7 hx (hb hby d30_10) (by decide) (pc' := 24) (by decide) ?_
  refine o_astoreN X7 hx (hb hby d30_24) rfl (L' := #[.val (.ref b1), .val (.int (2 : Int32)), .val (.ref mo), .val (.ref b7)]) rfl rfl ?_
  refine o_aloadN X7 hx (hb hby d30_25) rfl rfl rfl ?_
  refine o_iconst X7 hx (hb hby d30_26) (v := (0 : Int32)) rfl rfl ?_
  refine o_aloadN X7 hx (hb hby d30_27) rfl rfl rfl ?_
  refine o_iconst X7 hx (hb hby d30_28) (v := (0 : Int32)) rfl rfl ?_
  refine o_aloadN X7 hx (hb hby d30_29) rfl rfl rfl ?_
  have fA30 : Arv Z h7 b1 k1 (.object "java/lang/Object") (10 : Int32) [(.ref e1), (.ref e2), .null, .null, .null, .null, .null, .null, .null, .null] .null := (A_b1.ext E7)
  refine o_alen X7 hx hZ e7 fA30 (hb hby d30_30) rfl ?_
  refine o_iloadN X7 hx (hb hby d30_31) rfl rfl ?_
  refine o_static X7 hx hZ hown (wd207 hw) (wd208 hw) (by decide) (rmmi2 l Z a0 hw  h7 n0 OE7 ) (wd209 hw) (wd179 hw) e7 (by rw [hml]; rfl) (argsL := [(.int (10 : Int32)), (.int (2 : Int32))]) (rest := [(.int (0 : Int32)), (.ref b7), (.int (0 : Int32)), (.ref b1)]) (W := 4) pd3 rfl rfl rfl rfl (hb hby d30_32) (by decide) (by decide) (by decide) (by decide) (cells' := 1) (slots' := 2) rfl rfl rfl fun v32 T32 h32 Lc32 X32 e32 hq32 => ?_
  obtain ⟨rfl, N32q, K32⟩ := hq32
  have N32 := Fr.app N0 N32q
  have e32_2 : T32.heap = h7 := e32.trans K32
  show Goes p.tables e below (Ends s (Qc3_2 Z b1 k1 e1 e2 mo h0 n0) ({ frames := 1, cells := 1, slots := 2, locals := 27 } : Room).cells ({ frames := 1, cells := 1, slots := 2, locals := 27 } : Room).slots) (T32.setTop (mkF m 35 #[.val (.ref b1), .val (.int (2 : Int32)), .val (.ref mo), .val (.ref b7)] [(.int (2 : Int32)), (.int (0 : Int32)), (.ref b7), (.int (0 : Int32)), (.ref b1)]))
  have fE35 : Exa Z h7 e1 "com/example/hybrev/hybrev/RevocationEvent" := (E_e1.ext E7)
  have fE35_2 : Exa Z h7 e2 "com/example/hybrev/hybrev/RevocationEvent" := (E_e2.ext E7)
  refine o_acopyR X32 hx hZ hown (wd210 hw) (wd213 hw) (wd211 hw) (wd212 hw) e32_2 fA30 A_b7 ⟨rfl, rfl⟩ ⟨own_stoA A_b7 Ov7 (Ins.of_exa fE35 (wd183 hw)), ⟨own_stoA A_b7 Ov7 (Ins.of_exa fE35_2 (wd183 hw)), trivial⟩⟩ ⟨by decide, by decide, by decide⟩ (by decide) (by decide) (us := [(.ref e1), (.ref e2)]) rfl (by decide) (vd' := [(.ref e1), (.ref e2)]) rfl N32 n_b7 (by rw [hml]; rfl) (hb hby d30_35) (by decide) (W := 0) rfl (by decide) rfl fun T35 h35 Lc35 X35 e35 N35 K35 (A35 : Arv Z h35 b7 k7 (.object "java/lang/Object") (2 : Int32) [(.ref e1), (.ref e2)] .null) => ?_
  have KK35_h0 : Keep h0 h35 [] := KE7_h0.trans K35 (allS (Or.inr s_b7_h0) all0)
  have OK35 : Old Z n0 h35 := OE7.keep K35 (allS n_b7 all0)
  refine o_aloadN X35 hx (hb hby d30_38) rfl rfl rfl ?_
  exact o_ret X35 hx hlk (t := (.array (.object "java/lang/Object"))) hret rfl (Or.inr (Or.inr (Or.inr (Or.inr ⟨rfl, rfl, rfl⟩)))) (hb hby d30_39) (by decide) (by decide) e35 ⟨b7, k7, rfl, N35, KK35_h0, s_b7_h0, A35⟩
def Qc2_2 (Z : State) (b1 : Addr) (k1 : ClassId) (e1 : Addr) (e2 : Addr) (mo : Addr) (h0 : Heap) (n0 : Nat) (v : Option Value) (h : Heap) (L : List Loc) : Prop := ∃ t : Addr, ∃ k : ClassId, v = some (.ref t) ∧ Fr n0 L ∧ Keep h0 h [] ∧ (h0.size ≤ t) ∧ Arv Z h t k (.object "java/lang/Object") (2 : Int32) [(.ref e1), (.ref e2)] .null
set_option maxRecDepth 65536 in
set_option maxHeartbeats 40000000 in
theorem rmc2_2 (l : Launch) (Z : State) (a0 : Array Value) (hw : ∀ d ∈ tables_1, d.before a0 Z = true) (b1 : Addr) (k1 : ClassId) (e1 : Addr) (e2 : Addr) (mo : Addr) (h0 : Heap) (n0 : Nat) (O0 : Old Z n0 h0) (E_b1 : Exa Z h0 b1 "[Ljava/lang/Object;") (A_b1 : Arv Z h0 b1 k1 (.object "java/lang/Object") (10 : Int32) [(.ref e1), (.ref e2), .null, .null, .null, .null, .null, .null, .null, .null] .null) (E_e1 : Exa Z h0 e1 "com/example/hybrev/hybrev/RevocationEvent") (E_e2 : Exa Z h0 e2 "com/example/hybrev/hybrev/RevocationEvent") (hM : Mir Z "[Ljava/lang/Object;" mo) :
    Met l Z (⟨"java/util/Arrays", "copyOf", "([Ljava/lang/Object;I)[Ljava/lang/Object;"⟩ : MethodName) jdk_65_method_119_code 2 (some (.array (.object "java/lang/Object"))) ({ frames := 2, cells := 1, slots := 2, locals := 42 } : Room) [] #[(.ref b1), (.int (2 : Int32))] h0 (Qc2_2 Z b1 k1 e1 e2 mo h0 n0) := by
  refine met_of (L0 := #[.val (.ref b1), .val (.int (2 : Int32))]) (plainFor_of_name pn12) (fun m => by first | (simp [entryFrame, mkF, argsToLocals, Value.category]; done) | rfl) ?_
  intro p e s m below meth c T0 hx hby hml hown hnm hret hlk hZ X0 e0
  have N0 := Fr.nil n0
  have KK0 : Keep h0 h0 [] := Keep.refl _ _
  refine o_aloadN X0 hx (hb hby d29_0) rfl rfl rfl ?_
  refine o_iloadN X0 hx (hb hby d29_1) rfl rfl ?_
  refine o_aloadN X0 hx (hb hby d29_2) rfl rfl rfl ?_
  refine o_gcls X0 hx hZ hown (wd196 hw) (wd197 hw) (wd74 hw) (wd199 hw) (wd198 hw) (wd200 hw) e0 E_b1 hM (by rw [hml]; rfl) (hb hby d29_3) (by decide) (W := 2) rfl (by decide) rfl fun T3 X3 e3 => ?_
  refine o_static X3 hx hZ hown (wd202 hw) (wd203 hw) (by decide) (rmc3_2 l Z a0 hw b1 k1 e1 e2 mo h0 n0 O0 E_b1 A_b1 E_e1 E_e2 hM) (wd204 hw) (wd194 hw) e3 (by rw [hml]; rfl) (argsL := [(.ref b1), (.int (2 : Int32)), (.ref mo)]) (rest := []) (W := 0) pd8 rfl rfl rfl rfl (hb hby d29_6) (by decide) (by decide) (by decide) (by decide) (cells' := 1) (slots' := 2) rfl rfl rfl fun v6 T6 h6 Lc6 X6 e6 hq6 => ?_
  obtain ⟨t_6, k_6, rfl, N6q, K6, ht_6, qA_6⟩ := hq6
  have N6 := Fr.app N0 N6q
  have s_t_6_h0 : h0.size ≤ t_6 := Nat.le_trans KK0.1 ht_6
  have n_t_6 : n0 ≤ t_6 := Nat.le_trans (O0.1 ▸ O0.2.1) ht_6
  have KK6_h0 : Keep h0 h6 [] := KK0.trans K6 all0
  have OK6 : Old Z n0 h6 := O0.keep K6 all0
  show Goes p.tables e below (Ends s (Qc2_2 Z b1 k1 e1 e2 mo h0 n0) ({ frames := 2, cells := 1, slots := 2, locals := 42 } : Room).cells ({ frames := 2, cells := 1, slots := 2, locals := 42 } : Room).slots) (T6.setTop (mkF m 9 #[.val (.ref b1), .val (.int (2 : Int32))] [(.ref t_6)]))
  exact o_ret X6 hx hlk (t := (.array (.object "java/lang/Object"))) hret rfl (Or.inr (Or.inr (Or.inr (Or.inr ⟨rfl, rfl, rfl⟩)))) (hb hby d29_9) (by decide) (by decide) e6 ⟨t_6, k_6, rfl, N6, KK6_h0, s_t_6_h0, qA_6⟩
def Qta2 (Z : State) (a1 : Addr) (b1 : Addr) (k1 : ClassId) (e1 : Addr) (e2 : Addr) (mo : Addr) (h0 : Heap) (n0 : Nat) (v : Option Value) (h : Heap) (L : List Loc) : Prop := ∃ t : Addr, ∃ k : ClassId, v = some (.ref t) ∧ Fr n0 L ∧ Keep h0 h [] ∧ (h0.size ≤ t) ∧ Arv Z h t k (.object "java/lang/Object") (2 : Int32) [(.ref e1), (.ref e2)] .null
set_option maxRecDepth 65536 in
set_option maxHeartbeats 40000000 in
theorem rmta2 (l : Launch) (Z : State) (a0 : Array Value) (hw : ∀ d ∈ tables_1, d.before a0 Z = true) (a1 : Addr) (b1 : Addr) (k1 : ClassId) (e1 : Addr) (e2 : Addr) (mo : Addr) (h0 : Heap) (n0 : Nat) (O0 : Old Z n0 h0) (F_a1_elementData : Fld Z h0 a1 "java/util/ArrayList" "elementData" "[Ljava/lang/Object;" (.ref b1)) (F_a1_size : Fld Z h0 a1 "java/util/ArrayList" "size" "I" (.int (2 : Int32))) (E_b1 : Exa Z h0 b1 "[Ljava/lang/Object;") (A_b1 : Arv Z h0 b1 k1 (.object "java/lang/Object") (10 : Int32) [(.ref e1), (.ref e2), .null, .null, .null, .null, .null, .null, .null, .null] .null) (E_e1 : Exa Z h0 e1 "com/example/hybrev/hybrev/RevocationEvent") (E_e2 : Exa Z h0 e2 "com/example/hybrev/hybrev/RevocationEvent") (hM : Mir Z "[Ljava/lang/Object;" mo) :
    Met l Z (⟨"java/util/ArrayList", "toArray", "()[Ljava/lang/Object;"⟩ : MethodName) jdk_38_method_16_code 1 (some (.array (.object "java/lang/Object"))) ({ frames := 3, cells := 1, slots := 2, locals := 55 } : Room) [] #[(.ref a1)] h0 (Qta2 Z a1 b1 k1 e1 e2 mo h0 n0) := by
  refine met_of (L0 := #[.val (.ref a1)]) (plainFor_of_name pn5) (fun m => by first | (simp [entryFrame, mkF, argsToLocals, Value.category]; done) | rfl) ?_
  intro p e s m below meth c T0 hx hby hml hown hnm hret hlk hZ X0 e0
  have N0 := Fr.nil n0
  have KK0 : Keep h0 h0 [] := Keep.refl _ _
  refine o_aloadN X0 hx (hb hby d28_0) rfl rfl rfl ?_
  refine o_getF X0 hx hZ hown (host := "") (Or.inl (wd24 hw)) Via.refl e0 F_a1_elementData (hb hby d28_1) rfl fun T1 X1 e1_2 => ?_
  refine o_aloadN X1 hx (hb hby d28_4) rfl rfl rfl ?_
  refine o_getF X1 hx hZ hown (host := "") (Or.inl (wd85 hw)) Via.refl e1_2 F_a1_size (hb hby d28_5) rfl fun T5 X5 e5 => ?_
  refine o_static X5 hx hZ hown (wd192 hw) (wd193 hw) (by decide) (rmc2_2 l Z a0 hw b1 k1 e1 e2 mo h0 n0 O0 E_b1 A_b1 E_e1 E_e2 hM) (wd195 hw) (wd194 hw) e5 (by rw [hml]; rfl) (argsL := [(.ref b1), (.int (2 : Int32))]) (rest := []) (W := 0) pd9 rfl rfl rfl rfl (hb hby d28_8) (by decide) (by decide) (by decide) (by decide) (cells' := 1) (slots' := 2) rfl rfl rfl fun v8 T8 h8 Lc8 X8 e8 hq8 => ?_
  obtain ⟨t_8, k_8, rfl, N8q, K8, ht_8, qA_8⟩ := hq8
  have N8 := Fr.app N0 N8q
  have s_t_8_h0 : h0.size ≤ t_8 := Nat.le_trans KK0.1 ht_8
  have n_t_8 : n0 ≤ t_8 := Nat.le_trans (O0.1 ▸ O0.2.1) ht_8
  have KK8_h0 : Keep h0 h8 [] := KK0.trans K8 all0
  have OK8 : Old Z n0 h8 := O0.keep K8 all0
  show Goes p.tables e below (Ends s (Qta2 Z a1 b1 k1 e1 e2 mo h0 n0) ({ frames := 3, cells := 1, slots := 2, locals := 55 } : Room).cells ({ frames := 3, cells := 1, slots := 2, locals := 55 } : Room).slots) (T8.setTop (mkF m 11 #[.val (.ref a1)] [(.ref t_8)]))
  exact o_ret X8 hx hlk (t := (.array (.object "java/lang/Object"))) hret rfl (Or.inr (Or.inr (Or.inr (Or.inr ⟨rfl, rfl, rfl⟩)))) (hb hby d28_11) (by decide) (by decide) e8 ⟨t_8, k_8, rfl, N8, KK8_h0, s_t_8_h0, qA_8⟩
def Qlof2 (Z : State) (t1 : Addr) (k1 : ClassId) (e1 : Addr) (e2 : Addr) (em : Addr) (h0 : Heap) (n0 : Nat) (v : Option Value) (h : Heap) (L : List Loc) : Prop := ∃ b : Addr, v = some (.ref b) ∧ Fr n0 L ∧ Keep h0 h [] ∧ (h0.size ≤ b) ∧ Exa Z h b "java/util/ImmutableCollections$List12"
set_option maxRecDepth 65536 in
set_option maxHeartbeats 40000000 in
theorem rmlof2 (l : Launch) (Z : State) (a0 : Array Value) (hw : ∀ d ∈ tables_1, d.before a0 Z = true) (t1 : Addr) (k1 : ClassId) (e1 : Addr) (e2 : Addr) (em : Addr) (h0 : Heap) (n0 : Nat) (O0 : Old Z n0 h0) (A_t1 : Arv Z h0 t1 k1 (.object "java/lang/Object") (2 : Int32) [(.ref e1), (.ref e2)] .null) (S_EMPTY : Sta Z Z.heap "java/util/ImmutableCollections" "EMPTY" "Ljava/lang/Object;" (.ref em)) :
    Met l Z (⟨"java/util/List", "of", "([Ljava/lang/Object;)Ljava/util/List;"⟩ : MethodName) jdk_40_method_47_code 2 (some (.object "java/util/List")) ({ frames := 5, cells := 1, slots := 2, locals := 63 } : Room) [] #[(.ref t1)] h0 (Qlof2 Z t1 k1 e1 e2 em h0 n0) := by
  refine met_of (L0 := #[.val (.ref t1), .unset]) (plainFor_of_name pn11) (fun m => by first | (simp [entryFrame, mkF, argsToLocals, Value.category]; done) | rfl) ?_
  intro p e s m below meth c T0 hx hby hml hown hnm hret hlk hZ X0 e0
  have N0 := Fr.nil n0
  have KK0 : Keep h0 h0 [] := Keep.refl _ _
  refine o_aloadN X0 hx (hb hby d32_0) rfl rfl rfl ?_
  refine o_alen X0 hx hZ e0 A_t1 (hb hby d32_1) rfl ?_
  refine o_tswIn X0 hx (hb hby d32_2) (by decide) rfl (by decide) (pc' := 45) (by decide) ?_
  refine o_new X0 hx hZ hown (wd217 hw) (wd218 hw) (wd219 hw) e0 (hb hby d32_45) (by decide) (by decide) (cells' := 1) (slots' := 2) rfl rfl rfl fun T45 h45 b45 g45 X45 e45 E45 A45 D45 => ?_
  have s_b45_h0 : h0.size ≤ b45 := Nat.le_trans KK0.1 (Nat.le_of_eq g45.symm)
  have n_b45 : n0 ≤ b45 := Nat.le_trans (O0.1 ▸ O0.2.1) (Nat.le_of_eq g45.symm)
  have KE45_h0 : Keep h0 h45 [] := KK0.ext E45
  have OE45 : Old Z n0 h45 := O0.ext E45
  have Fb45_e0 : Fld Z h45 b45 "java/util/ImmutableCollections$List12" "e0" "Ljava/lang/Object;" .null := D45 (Or.inr (wd242 hw)) (ty := (.object "java/lang/Object")) (by decide)
  have Fb45_e1 : Fld Z h45 b45 "java/util/ImmutableCollections$List12" "e1" "Ljava/lang/Object;" .null := D45 (Or.inr (wd244 hw)) (ty := (.object "java/lang/Object")) (by decide)
  refine o_dup X45 hx (hb hby d32_48) rfl rfl ?_
  refine o_aloadN X45 hx (hb hby d32_49) rfl rfl rfl ?_
  refine o_iconst X45 hx (hb hby d32_50) (v := (0 : Int32)) rfl rfl ?_
  have fA51 : Arv Z h45 t1 k1 (.object "java/lang/Object") (2 : Int32) [(.ref e1), (.ref e2)] .null := (A_t1.ext E45)
  refine o_aaload X45 hx hZ e45 fA51 rfl ⟨by decide, by decide⟩ (v := (.ref e1)) rfl (hb hby d32_51) rfl ?_
  refine o_aloadN X45 hx (hb hby d32_52) rfl rfl rfl ?_
  refine o_iconst X45 hx (hb hby d32_53) (v := (1 : Int32)) rfl rfl ?_
  refine o_aaload X45 hx hZ e45 fA51 rfl ⟨by decide, by decide⟩ (v := (.ref e2)) rfl (hb hby d32_54) rfl ?_
  refine o_special X45 hx hZ rfl rfl hown (wd220 hw) (wd221 hw) (by decide) (a := b45) (rm33 l Z a0 hw b45 e1 e2 h45 n0 OE45 A45 Fb45_e0 Fb45_e1 n_b45) (wd223 hw) (wd219 hw) e45 (by rw [hml]; rfl) (argsL := [(.ref e1), (.ref e2)]) (rest := [(.ref b45)]) (W := 1) pd11 rfl rfl rfl rfl (hb hby d32_55) (by decide) (by decide) (by decide) (by decide) (cells' := 1) (slots' := 2) rfl rfl rfl fun v55 T55 h55 Lc55 X55 e55 hq55 => ?_
  obtain ⟨rfl, N55q, K55, qE_55⟩ := hq55
  have N55 := Fr.app N0 N55q
  have KK55_h0 : Keep h0 h55 [] := KE45_h0.trans K55 (allS (Or.inr s_b45_h0) all0)
  have OK55 : Old Z n0 h55 := OE45.keep K55 (allS n_b45 all0)
  show Goes p.tables e below (Ends s (Qlof2 Z t1 k1 e1 e2 em h0 n0) ({ frames := 5, cells := 1, slots := 2, locals := 63 } : Room).cells ({ frames := 5, cells := 1, slots := 2, locals := 63 } : Room).slots) (T55.setTop (mkF m 58 #[.val (.ref t1), .unset] [(.ref b45)]))
  exact o_ret X55 hx hlk (t := (.object "java/util/List")) hret rfl (Or.inr (Or.inr (Or.inr (Or.inr ⟨rfl, rfl, rfl⟩)))) (hb hby d32_58) (by decide) (by decide) e55 ⟨b45, rfl, N55, KK55_h0, s_b45_h0, qE_55⟩
def Qlc0 (Z : State) (a1 : Addr) (el : Addr) (h0 : Heap) (n0 : Nat) (v : Option Value) (h : Heap) (L : List Loc) : Prop := v = some (.ref el) ∧ Fr n0 L ∧ h = h0
set_option maxRecDepth 65536 in
set_option maxHeartbeats 40000000 in
theorem rmlc0 (l : Launch) (Z : State) (a0 : Array Value) (hw : ∀ d ∈ tables_1, d.before a0 Z = true) (a1 : Addr) (el : Addr) (h0 : Heap) (n0 : Nat) (O0 : Old Z n0 h0) (E_a1 : Exa Z h0 a1 "java/util/ArrayList") (F_a1_size : Fld Z h0 a1 "java/util/ArrayList" "size" "I" (.int (0 : Int32))) (S_EMPTY_LIST : Sta Z Z.heap "java/util/ImmutableCollections" "EMPTY_LIST" "Ljava/util/ImmutableCollections$ListN;" (.ref el)) :
    Met l Z (⟨"java/util/ImmutableCollections", "listCopy", "(Ljava/util/Collection;)Ljava/util/List;"⟩ : MethodName) jdk_56_method_3_code 2 (some (.object "java/util/List")) ({ frames := 1, cells := 0, slots := 0, locals := 12 } : Room) [] #[(.ref a1)] h0 (Qlc0 Z a1 el h0 n0) := by
  refine met_of (L0 := #[.val (.ref a1), .unset]) (plainFor_of_name pn13) (fun m => by first | (simp [entryFrame, mkF, argsToLocals, Value.category]; done) | rfl) ?_
  intro p e s m below meth c T0 hx hby hml hown hnm hret hlk hZ X0 e0
  have N0 := Fr.nil n0
  refine o_aloadN X0 hx (hb hby d10_0) rfl rfl rfl ?_
  refine o_instNo X0 hx hZ hown (wd70 hw) e0 E_a1 (own_no12 hw) (hb hby d10_1) rfl fun T1 X1 e1 => ?_
  refine o_ifNo X1 hx (hb hby d10_4) ((if0 _ _).trans (teq (by decide)).2) rfl ?_
  refine o_aloadN X1 hx (hb hby d10_7) rfl rfl rfl ?_
  refine o_instNo X1 hx hZ hown (wd75 hw) e1 E_a1 (own_noN hw) (hb hby d10_8) rfl fun T8 X8 e8 => ?_
  refine o_ifYes X8 hx (hb hby d10_11) ((if0 _ _).trans (teq (by decide)).1) (by decide) (pc' := 31) (by decide) ?_
  refine o_aloadN X8 hx (hb hby d10_31) rfl rfl rfl ?_
  refine o_iface X8 hx hZ (C := "java/util/ArrayList") hown (wd76 hw) (wd77 hw) (mvT hZ (wd78 hw)) (wd79 hw) (wd80 hw) (wd81 hw) (wd82 hw) (wd83 hw) (by decide) E_a1 (rmiz0 l Z a0 hw a1 h0 n0 O0 F_a1_size) (wd84 hw) (wd2 hw) e8 (by rw [hml]; rfl) (argsL := []) (rest := []) (W := 0) pd12 rfl rfl rfl rfl (hb hby d10_32) (by decide) (by decide) (by decide) (by decide) (cells' := 0) (slots' := 0) rfl rfl rfl fun v32 T32 h32 Lc32 X32 e32 hq32 => ?_
  obtain ⟨rfl, N32q, K32⟩ := hq32
  have N32 := Fr.app N0 N32q
  have e32_2 : T32.heap = h0 := e32.trans K32
  show Goes p.tables e below (Ends s (Qlc0 Z a1 el h0 n0) ({ frames := 1, cells := 0, slots := 0, locals := 12 } : Room).cells ({ frames := 1, cells := 0, slots := 0, locals := 12 } : Room).slots) (T32.setTop (mkF m 37 #[.val (.ref a1), .unset] [(.int (1 : Int32))]))
  refine o_ifNo X32 hx (hb hby d10_37) ((if0 _ _).trans (feq (by decide)).1) rfl ?_
  refine o_static X32 hx hZ hown (wd87 hw) (wd88 hw) (by decide) (rm12 l Z a0 hw el h0 n0 O0 S_EMPTY_LIST) (wd89 hw) (wd64 hw) e32_2 (by rw [hml]; rfl) (argsL := []) (rest := []) (W := 0) pd13 rfl rfl rfl rfl (hb hby d10_40) (by decide) (by decide) (by decide) (by decide) (cells' := 0) (slots' := 0) rfl rfl rfl fun v40 T40 h40 Lc40 X40 e40 hq40 => ?_
  obtain ⟨rfl, N40q, K40⟩ := hq40
  have N40 := Fr.app N32 N40q
  have e40_2 : T40.heap = h0 := e40.trans K40
  show Goes p.tables e below (Ends s (Qlc0 Z a1 el h0 n0) ({ frames := 1, cells := 0, slots := 0, locals := 12 } : Room).cells ({ frames := 1, cells := 0, slots := 0, locals := 12 } : Room).slots) (T40.setTop (mkF m 43 #[.val (.ref a1), .unset] [(.ref el)]))
  exact o_ret X40 hx hlk (t := (.object "java/util/List")) hret rfl (Or.inr (Or.inr (Or.inr (Or.inr ⟨rfl, rfl, rfl⟩)))) (hb hby d10_43) (by decide) (by decide) e40_2 ⟨rfl, N40, rfl⟩
def Qlco0 (Z : State) (a1 : Addr) (el : Addr) (h0 : Heap) (n0 : Nat) (v : Option Value) (h : Heap) (L : List Loc) : Prop := v = some (.ref el) ∧ Fr n0 L ∧ h = h0
set_option maxRecDepth 65536 in
set_option maxHeartbeats 40000000 in
theorem rmlco0 (l : Launch) (Z : State) (a0 : Array Value) (hw : ∀ d ∈ tables_1, d.before a0 Z = true) (a1 : Addr) (el : Addr) (h0 : Heap) (n0 : Nat) (O0 : Old Z n0 h0) (E_a1 : Exa Z h0 a1 "java/util/ArrayList") (F_a1_size : Fld Z h0 a1 "java/util/ArrayList" "size" "I" (.int (0 : Int32))) (S_EMPTY_LIST : Sta Z Z.heap "java/util/ImmutableCollections" "EMPTY_LIST" "Ljava/util/ImmutableCollections$ListN;" (.ref el)) :
    Met l Z (⟨"java/util/List", "copyOf", "(Ljava/util/Collection;)Ljava/util/List;"⟩ : MethodName) jdk_40_method_48_code 1 (some (.object "java/util/List")) ({ frames := 2, cells := 0, slots := 0, locals := 25 } : Room) [] #[(.ref a1)] h0 (Qlco0 Z a1 el h0 n0) := by
  refine met_of (L0 := #[.val (.ref a1)]) (plainFor_of_name pn11) (fun m => by first | (simp [entryFrame, mkF, argsToLocals, Value.category]; done) | rfl) ?_
  intro p e s m below meth c T0 hx hby hml hown hnm hret hlk hZ X0 e0
  have N0 := Fr.nil n0
  refine o_aloadN X0 hx (hb hby d9_0) rfl rfl rfl ?_
  refine o_static X0 hx hZ hown (wd66 hw) (wd67 hw) (by decide) (rmlc0 l Z a0 hw a1 el h0 n0 O0 E_a1 F_a1_size S_EMPTY_LIST) (wd69 hw) (wd68 hw) e0 (by rw [hml]; rfl) (argsL := [(.ref a1)]) (rest := []) (W := 0) pd14 rfl rfl rfl rfl (hb hby d9_1) (by decide) (by decide) (by decide) (by decide) (cells' := 0) (slots' := 0) rfl rfl rfl fun v1 T1 h1 Lc1 X1 e1 hq1 => ?_
  obtain ⟨rfl, N1q, K1⟩ := hq1
  have N1 := Fr.app N0 N1q
  have e1_2 : T1.heap = h0 := e1.trans K1
  show Goes p.tables e below (Ends s (Qlco0 Z a1 el h0 n0) ({ frames := 2, cells := 0, slots := 0, locals := 25 } : Room).cells ({ frames := 2, cells := 0, slots := 0, locals := 25 } : Room).slots) (T1.setTop (mkF m 4 #[.val (.ref a1)] [(.ref el)]))
  exact o_ret X1 hx hlk (t := (.object "java/util/List")) hret rfl (Or.inr (Or.inr (Or.inr (Or.inr ⟨rfl, rfl, rfl⟩)))) (hb hby d9_4) (by decide) (by decide) e1_2 ⟨rfl, N1, rfl⟩
def Qepi0 (Z : State) (a1 : Addr) (nx : Addr) (l1 : Addr) (el : Addr) (h0 : Heap) (n0 : Nat) (v : Option Value) (h : Heap) (L : List Loc) : Prop := v = none ∧ Fr n0 L ∧ Keep h0 h [a1] ∧ Exa Z h a1 "com/example/hybrev/hybrev/EventPage" ∧ Fld Z h a1 "com/example/hybrev/hybrev/EventPage" "next" "Ljava/lang/String;" (.ref nx)
set_option maxRecDepth 65536 in
set_option maxHeartbeats 40000000 in
theorem rmepi0 (l : Launch) (Z : State) (a0 : Array Value) (hw : ∀ d ∈ tables_1, d.before a0 Z = true) (a1 : Addr) (nx : Addr) (l1 : Addr) (el : Addr) (h0 : Heap) (n0 : Nat) (O0 : Old Z n0 h0) (E_a1 : Exa Z h0 a1 "com/example/hybrev/hybrev/EventPage") (F_a1_events : Fld Z h0 a1 "com/example/hybrev/hybrev/EventPage" "events" "Ljava/util/List;" .null) (F_a1_next : Fld Z h0 a1 "com/example/hybrev/hybrev/EventPage" "next" "Ljava/lang/String;" .null) (E_nx : Exa Z h0 nx "java/lang/String") (E_l1 : Exa Z h0 l1 "java/util/ArrayList") (F_l1_size : Fld Z h0 l1 "java/util/ArrayList" "size" "I" (.int (0 : Int32))) (S_EMPTY_LIST : Sta Z Z.heap "java/util/ImmutableCollections" "EMPTY_LIST" "Ljava/util/ImmutableCollections$ListN;" (.ref el)) (na1 : n0 ≤ a1) (nel : a1 ≠ l1) :
    MetH l Z consts_1 (⟨"com/example/hybrev/hybrev/EventPage", "<init>", "(Ljava/util/List;Ljava/lang/String;)V"⟩ : MethodName) prog_5_method_2_code 3 none ({ frames := 3, cells := 2, slots := 20, locals := 38 } : Room) [] #[(.ref a1), (.ref l1), (.ref nx)] h0 [a1] (Qepi0 Z a1 nx l1 el h0 n0) := by
  refine metH_of (L0 := #[.val (.ref a1), .val (.ref l1), .val (.ref nx)]) (plainFor_of_name pn14) (fun m => by first | (simp [entryFrame, mkF, argsToLocals, Value.category]; done) | rfl) ?_
  intro p e s m below meth c T0 hx hby hml hown hnm hret hlk hZ B0 hS0 X0 e0
  have N0 := Fr.nil n0
  have sf_a1 := hS0 a1 (List.mem_of_getElem? (i := 0) rfl)
  have KK0 : Keep h0 h0 [a1] := Keep.refl _ _
  refine o_aloadN X0 hx (hb hby d8_0) rfl rfl rfl ?_
  refine o_initO X0 hx hZ hown (wd61 hw) (wd19 hw) (wd20 hw) e0 (by rw [hml]; rfl) (hb hby d8_1) (by decide) (W := 0) rfl (by decide) rfl fun T1 X1 e1 => ?_
  refine o_aloadN X1 hx (hb hby d8_4) rfl rfl rfl ?_
  refine o_aloadN X1 hx (hb hby d8_5) rfl rfl rfl ?_
  refine o_static X1 hx hZ hown (wd62 hw) (wd63 hw) (by decide) (rmlco0 l Z a0 hw l1 el h0 n0 O0 E_l1 F_l1_size S_EMPTY_LIST) (wd65 hw) (wd64 hw) e1 (by rw [hml]; rfl) (argsL := [(.ref l1)]) (rest := [(.ref a1)]) (W := 1) pd14 rfl rfl rfl rfl (hb hby d8_6) (by decide) (by decide) (by decide) (by decide) (cells' := 0) (slots' := 0) rfl rfl rfl fun v6 T6 h6 Lc6 X6 e6 hq6 => ?_
  obtain ⟨rfl, N6q, K6⟩ := hq6
  have N6 := Fr.app N0 N6q
  have e6_2 : T6.heap = h0 := e6.trans K6
  show Goes p.tables e below (EndsH Z consts_1 s h0 (Qepi0 Z a1 nx l1 el h0 n0) ({ frames := 3, cells := 2, slots := 20, locals := 38 } : Room).cells ({ frames := 3, cells := 2, slots := 20, locals := 38 } : Room).slots) (T6.setTop (mkF m 9 #[.val (.ref a1), .val (.ref l1), .val (.ref nx)] [(.ref el), (.ref a1)]))
  refine o_putF X6 hx hZ hown (host := "") (Or.inl (wd91 hw)) Via.refl e6_2 F_a1_events E_a1 (Or.inr ⟨(wd92 hw), rfl, hnm⟩) (wd56 hw) (ty := (.object "java/util/List")) (by decide) rfl rfl (hb hby d8_9) rfl fun T9 h9 X9 e9 W9 => ?_
  have F9 : Fld Z h9 a1 "com/example/hybrev/hybrev/EventPage" "events" "Ljava/util/List;" (.ref el) := F_a1_events.same W9
  have N9 := Fr.snoc X9 N6 na1
  have KW9_h0 : Keep h0 h9 [a1] := KK0.wr W9 (Or.inl (List.mem_of_getElem? (i := 0) rfl))
  have OW9 : Old Z n0 h9 := O0.wr W9 na1
  have BW9 : HB Z consts_1 s s h0 h9 := B0.wr W9 sf_a1
  have sf_a1_2 : Safe Z consts_1 s.vm h9 a1 := own_sfW B0.ch W9 sf_a1 sf_a1
  refine o_aloadN X9 hx (hb hby d8_12) rfl rfl rfl ?_
  refine o_aloadN X9 hx (hb hby d8_13) rfl rfl rfl ?_
  have fE14 : Exa Z h9 a1 "com/example/hybrev/hybrev/EventPage" := (E_a1.wr W9)
  refine o_ldcF X9 hx hZ hown (wd93 hw) (own_sa hw) e9 BW9 (own_EW hw) (by decide) (vs := [(.int (110 : Int32)), (.int (101 : Int32)), (.int (120 : Int32)), (.int (116 : Int32))]) (z := (4 : Int32)) ⟨by decide, by decide +kernel⟩ (by decide) rfl (hb hby d8_14) (n := 16) (by decide) (by decide) (by decide) (by decide) (cells' := 2) (slots' := 20) rfl rfl rfl fun s14 T14 h14 a14 b14 kb14 X14 e14 E14 B14 hZ14 hown14 Ea14 Fc14 Fv14 (Ab14 : Arv Z h14 b14 kb14 .byte (4 : Int32) [(.int (110 : Int32)), (.int (101 : Int32)), (.int (120 : Int32)), (.int (116 : Int32))] (.int (0 : Int32))) hS14 hN14 => ?_
  have KE14_h0 : Keep h0 h14 [a1] := KW9_h0.ext E14
  have OE14 : Old Z n0 h14 := OW9.ext E14
  have sf_a1_3 := hS14 a1 fE14.lt sf_a1_2
  have nS14 := hN14 a1 fE14.lt sf_a1_2
  refine o_static X14 hx hZ14 hown14 (wd94 hw) (wd95 hw) (by decide) (rm13 l Z a0 hw nx a14 h14 n0 OE14 ) (wd97 hw) (wd96 hw) e14 (by rw [hml]; rfl) (argsL := [(.ref nx), (.ref a14)]) (rest := [(.ref a1)]) (W := 1) pd15 rfl rfl rfl rfl (hb hby d8_16) (by decide) (by decide) (by decide) (by decide) (cells' := 2) (slots' := 20) rfl rfl rfl fun v16 T16 h16 Lc16 X16 e16 hq16 => ?_
  obtain ⟨rfl, N16q, K16⟩ := hq16
  have N16 := Fr.app N9 N16q
  have e16_2 : T16.heap = h14 := e16.trans K16
  show Goes p.tables e below (EndsH Z consts_1 s h0 (Qepi0 Z a1 nx l1 el h0 n0) ({ frames := 3, cells := 2, slots := 20, locals := 38 } : Room).cells ({ frames := 3, cells := 2, slots := 20, locals := 38 } : Room).slots) (T16.setTop (mkF m 19 #[.val (.ref a1), .val (.ref l1), .val (.ref nx)] [(.ref nx), (.ref a1)]))
  have fE19 : Exa Z h14 nx "java/lang/String" := ((E_nx.wr W9).ext E14)
  refine o_castY X16 hx hZ14 hown14 (wd98 hw) e16_2 (Ins.self fE19) (hb hby d8_19) rfl fun T19 X19 e19 => ?_
  have fF22 : Fld Z h14 a1 "com/example/hybrev/hybrev/EventPage" "next" "Ljava/lang/String;" .null := ((F_a1_next.other W9 (Or.inr (slot_ne (Z := Z) (a0 := a0) (Or.inr (wd100 hw)) (Or.inr (wd92 hw)) (by decide) (t := (.object "java/lang/String")) (t' := (.object "java/util/List")) (by decide) (by decide)))).ext E14)
  have fE22 : Exa Z h14 a1 "com/example/hybrev/hybrev/EventPage" := (fE14.ext E14)
  refine o_putF X19 hx hZ14 hown14 (host := "") (Or.inl (wd99 hw)) Via.refl e19 fF22 fE22 (Or.inr ⟨(wd100 hw), rfl, hnm⟩) (wd56 hw) (ty := (.object "java/lang/String")) (by decide) rfl rfl (hb hby d8_22) rfl fun T22 h22 X22 e22 W22 => ?_
  have F22 : Fld Z h22 a1 "com/example/hybrev/hybrev/EventPage" "next" "Ljava/lang/String;" (.ref nx) := fF22.same W22
  have N22 := Fr.snoc X22 N16 na1
  have KW22_h0 : Keep h0 h22 [a1] := KE14_h0.wr W22 (Or.inl (List.mem_of_getElem? (i := 0) rfl))
  have OW22 : Old Z n0 h22 := OE14.wr W22 na1
  have BW22 : HB Z consts_1 s s14 h0 h22 := B14.wr W22 sf_a1_3
  have sf_a1_4 : Safe Z consts_1 s14.vm h22 a1 := own_sfW B14.ch W22 sf_a1_3 sf_a1_3
  have fE25 : Exa Z h22 a1 "com/example/hybrev/hybrev/EventPage" := (fE22.wr W22)
  exact o_retVH X22 hx hlk hret (hb hby d8_25) (by decide) (by decide) e22 hZ14 (own_EW hw) BW22 ⟨rfl, N22, KW22_h0, fE25, F22⟩
def Qlc1 (Z : State) (a1 : Addr) (b1 : Addr) (k1 : ClassId) (e1 : Addr) (mo : Addr) (em : Addr) (h0 : Heap) (n0 : Nat) (v : Option Value) (h : Heap) (L : List Loc) : Prop := ∃ b : Addr, v = some (.ref b) ∧ Fr n0 L ∧ Keep h0 h [] ∧ (h0.size ≤ b) ∧ Exa Z h b "java/util/ImmutableCollections$List12"
set_option maxRecDepth 65536 in
set_option maxHeartbeats 40000000 in
theorem rmlc1 (l : Launch) (Z : State) (a0 : Array Value) (hw : ∀ d ∈ tables_1, d.before a0 Z = true) (a1 : Addr) (b1 : Addr) (k1 : ClassId) (e1 : Addr) (mo : Addr) (em : Addr) (h0 : Heap) (n0 : Nat) (O0 : Old Z n0 h0) (E_a1 : Exa Z h0 a1 "java/util/ArrayList") (F_a1_elementData : Fld Z h0 a1 "java/util/ArrayList" "elementData" "[Ljava/lang/Object;" (.ref b1)) (F_a1_size : Fld Z h0 a1 "java/util/ArrayList" "size" "I" (.int (1 : Int32))) (E_b1 : Exa Z h0 b1 "[Ljava/lang/Object;") (A_b1 : Arv Z h0 b1 k1 (.object "java/lang/Object") (10 : Int32) [(.ref e1), .null, .null, .null, .null, .null, .null, .null, .null, .null] .null) (E_e1 : Exa Z h0 e1 "com/example/hybrev/hybrev/RevocationEvent") (hM : Mir Z "[Ljava/lang/Object;" mo) (S_EMPTY : Sta Z Z.heap "java/util/ImmutableCollections" "EMPTY" "Ljava/lang/Object;" (.ref em)) :
    Met l Z (⟨"java/util/ImmutableCollections", "listCopy", "(Ljava/util/Collection;)Ljava/util/List;"⟩ : MethodName) jdk_56_method_3_code 2 (some (.object "java/util/List")) ({ frames := 6, cells := 2, slots := 3, locals := 75 } : Room) [] #[(.ref a1)] h0 (Qlc1 Z a1 b1 k1 e1 mo em h0 n0) := by
  refine met_of (L0 := #[.val (.ref a1), .unset]) (plainFor_of_name pn13) (fun m => by first | (simp [entryFrame, mkF, argsToLocals, Value.category]; done) | rfl) ?_
  intro p e s m below meth c T0 hx hby hml hown hnm hret hlk hZ X0 e0
  have N0 := Fr.nil n0
  have KK0 : Keep h0 h0 [] := Keep.refl _ _
  refine o_aloadN X0 hx (hb hby d10_0) rfl rfl rfl ?_
  refine o_instNo X0 hx hZ hown (wd70 hw) e0 E_a1 (own_no12 hw) (hb hby d10_1) rfl fun T1 X1 e1_2 => ?_
  refine o_ifNo X1 hx (hb hby d10_4) ((if0 _ _).trans (teq (by decide)).2) rfl ?_
  refine o_aloadN X1 hx (hb hby d10_7) rfl rfl rfl ?_
  refine o_instNo X1 hx hZ hown (wd75 hw) e1_2 E_a1 (own_noN hw) (hb hby d10_8) rfl fun T8 X8 e8 => ?_
  refine o_ifYes X8 hx (hb hby d10_11) ((if0 _ _).trans (teq (by decide)).1) (by decide) (pc' := 31) (by decide) ?_
  refine o_aloadN X8 hx (hb hby d10_31) rfl rfl rfl ?_
  refine o_iface X8 hx hZ (C := "java/util/ArrayList") hown (wd76 hw) (wd77 hw) (mvT hZ (wd78 hw)) (wd79 hw) (wd80 hw) (wd81 hw) (wd82 hw) (wd83 hw) (by decide) E_a1 (rmiz1 l Z a0 hw a1 h0 n0 O0 F_a1_size) (wd84 hw) (wd2 hw) e8 (by rw [hml]; rfl) (argsL := []) (rest := []) (W := 0) pd12 rfl rfl rfl rfl (hb hby d10_32) (by decide) (by decide) (by decide) (by decide) (cells' := 0) (slots' := 0) rfl rfl rfl fun v32 T32 h32 Lc32 X32 e32 hq32 => ?_
  obtain ⟨rfl, N32q, K32⟩ := hq32
  have N32 := Fr.app N0 N32q
  have e32_2 : T32.heap = h0 := e32.trans K32
  show Goes p.tables e below (Ends s (Qlc1 Z a1 b1 k1 e1 mo em h0 n0) ({ frames := 6, cells := 2, slots := 3, locals := 75 } : Room).cells ({ frames := 6, cells := 2, slots := 3, locals := 75 } : Room).slots) (T32.setTop (mkF m 37 #[.val (.ref a1), .unset] [(.int (0 : Int32))]))
  refine o_ifYes X32 hx (hb hby d10_37) ((if0 _ _).trans (teq (by decide)).1) (by decide) (pc' := 44) (by decide) ?_
  refine o_aloadN X32 hx (hb hby d10_44) rfl rfl rfl ?_
  refine o_iface X32 hx hZ (C := "java/util/ArrayList") hown (wd184 hw) (wd185 hw) (mvT hZ (wd186 hw)) (wd187 hw) (wd188 hw) (wd189 hw) (wd190 hw) (wd83 hw) (by decide) E_a1 (rmta1 l Z a0 hw a1 b1 k1 e1 mo h0 n0 O0 F_a1_elementData F_a1_size E_b1 A_b1 E_e1 hM) (wd191 hw) (wd2 hw) e32_2 (by rw [hml]; rfl) (argsL := []) (rest := []) (W := 0) pd5 rfl rfl rfl rfl (hb hby d10_45) (by decide) (by decide) (by decide) (by decide) (cells' := 1) (slots' := 1) rfl rfl rfl fun v45 T45 h45 Lc45 X45 e45 hq45 => ?_
  obtain ⟨t_45, k_45, rfl, N45q, K45, ht_45, qA_45⟩ := hq45
  have N45 := Fr.app N32 N45q
  have s_t_45_h0 : h0.size ≤ t_45 := Nat.le_trans KK0.1 ht_45
  have n_t_45 : n0 ≤ t_45 := Nat.le_trans (O0.1 ▸ O0.2.1) ht_45
  have KK45_h0 : Keep h0 h45 [] := KK0.trans K45 all0
  have OK45 : Old Z n0 h45 := O0.keep K45 all0
  show Goes p.tables e below (Ends s (Qlc1 Z a1 b1 k1 e1 mo em h0 n0) ({ frames := 6, cells := 2, slots := 3, locals := 75 } : Room).cells ({ frames := 6, cells := 2, slots := 3, locals := 75 } : Room).slots) (T45.setTop (mkF m 50 #[.val (.ref a1), .unset] [(.ref t_45)]))
  refine o_static X45 hx hZ hown (wd214 hw) (wd215 hw) (by decide) (rmlof1 l Z a0 hw t_45 k_45 e1 em h45 n0 OK45 qA_45 S_EMPTY) (wd216 hw) (wd64 hw) e45 (by rw [hml]; rfl) (argsL := [(.ref t_45)]) (rest := []) (W := 0) pd16 rfl rfl rfl rfl (hb hby d10_50) (by decide) (by decide) (by decide) (by decide) (cells' := 2) (slots' := 3) rfl rfl rfl fun v50 T50 h50 Lc50 X50 e50 hq50 => ?_
  obtain ⟨b_50, rfl, N50q, K50, hb_50, qE_50⟩ := hq50
  have N50 := Fr.app N45 N50q
  have s_b_50_h0 : h0.size ≤ b_50 := Nat.le_trans KK45_h0.1 hb_50
  have n_b_50 : n0 ≤ b_50 := Nat.le_trans (OK45.1 ▸ OK45.2.1) hb_50
  have KK50_h0 : Keep h0 h50 [] := KK45_h0.trans K50 all0
  have OK50 : Old Z n0 h50 := OK45.keep K50 all0
  show Goes p.tables e below (Ends s (Qlc1 Z a1 b1 k1 e1 mo em h0 n0) ({ frames := 6, cells := 2, slots := 3, locals := 75 } : Room).cells ({ frames := 6, cells := 2, slots := 3, locals := 75 } : Room).slots) (T50.setTop (mkF m 53 #[.val (.ref a1), .unset] [(.ref b_50)]))
  exact o_ret X50 hx hlk (t := (.object "java/util/List")) hret rfl (Or.inr (Or.inr (Or.inr (Or.inr ⟨rfl, rfl, rfl⟩)))) (hb hby d10_53) (by decide) (by decide) e50 ⟨b_50, rfl, N50, KK50_h0, s_b_50_h0, qE_50⟩
def Qlco1 (Z : State) (a1 : Addr) (b1 : Addr) (k1 : ClassId) (e1 : Addr) (mo : Addr) (em : Addr) (h0 : Heap) (n0 : Nat) (v : Option Value) (h : Heap) (L : List Loc) : Prop := ∃ b : Addr, v = some (.ref b) ∧ Fr n0 L ∧ Keep h0 h [] ∧ (h0.size ≤ b) ∧ Exa Z h b "java/util/ImmutableCollections$List12"
set_option maxRecDepth 65536 in
set_option maxHeartbeats 40000000 in
theorem rmlco1 (l : Launch) (Z : State) (a0 : Array Value) (hw : ∀ d ∈ tables_1, d.before a0 Z = true) (a1 : Addr) (b1 : Addr) (k1 : ClassId) (e1 : Addr) (mo : Addr) (em : Addr) (h0 : Heap) (n0 : Nat) (O0 : Old Z n0 h0) (E_a1 : Exa Z h0 a1 "java/util/ArrayList") (F_a1_elementData : Fld Z h0 a1 "java/util/ArrayList" "elementData" "[Ljava/lang/Object;" (.ref b1)) (F_a1_size : Fld Z h0 a1 "java/util/ArrayList" "size" "I" (.int (1 : Int32))) (E_b1 : Exa Z h0 b1 "[Ljava/lang/Object;") (A_b1 : Arv Z h0 b1 k1 (.object "java/lang/Object") (10 : Int32) [(.ref e1), .null, .null, .null, .null, .null, .null, .null, .null, .null] .null) (E_e1 : Exa Z h0 e1 "com/example/hybrev/hybrev/RevocationEvent") (hM : Mir Z "[Ljava/lang/Object;" mo) (S_EMPTY : Sta Z Z.heap "java/util/ImmutableCollections" "EMPTY" "Ljava/lang/Object;" (.ref em)) :
    Met l Z (⟨"java/util/List", "copyOf", "(Ljava/util/Collection;)Ljava/util/List;"⟩ : MethodName) jdk_40_method_48_code 1 (some (.object "java/util/List")) ({ frames := 7, cells := 2, slots := 3, locals := 88 } : Room) [] #[(.ref a1)] h0 (Qlco1 Z a1 b1 k1 e1 mo em h0 n0) := by
  refine met_of (L0 := #[.val (.ref a1)]) (plainFor_of_name pn11) (fun m => by first | (simp [entryFrame, mkF, argsToLocals, Value.category]; done) | rfl) ?_
  intro p e s m below meth c T0 hx hby hml hown hnm hret hlk hZ X0 e0
  have N0 := Fr.nil n0
  have KK0 : Keep h0 h0 [] := Keep.refl _ _
  refine o_aloadN X0 hx (hb hby d9_0) rfl rfl rfl ?_
  refine o_static X0 hx hZ hown (wd66 hw) (wd67 hw) (by decide) (rmlc1 l Z a0 hw a1 b1 k1 e1 mo em h0 n0 O0 E_a1 F_a1_elementData F_a1_size E_b1 A_b1 E_e1 hM S_EMPTY) (wd69 hw) (wd68 hw) e0 (by rw [hml]; rfl) (argsL := [(.ref a1)]) (rest := []) (W := 0) pd14 rfl rfl rfl rfl (hb hby d9_1) (by decide) (by decide) (by decide) (by decide) (cells' := 2) (slots' := 3) rfl rfl rfl fun v1 T1 h1 Lc1 X1 e1_2 hq1 => ?_
  obtain ⟨b_1, rfl, N1q, K1, hb_1, qE_1⟩ := hq1
  have N1 := Fr.app N0 N1q
  have s_b_1_h0 : h0.size ≤ b_1 := Nat.le_trans KK0.1 hb_1
  have n_b_1 : n0 ≤ b_1 := Nat.le_trans (O0.1 ▸ O0.2.1) hb_1
  have KK1_h0 : Keep h0 h1 [] := KK0.trans K1 all0
  have OK1 : Old Z n0 h1 := O0.keep K1 all0
  show Goes p.tables e below (Ends s (Qlco1 Z a1 b1 k1 e1 mo em h0 n0) ({ frames := 7, cells := 2, slots := 3, locals := 88 } : Room).cells ({ frames := 7, cells := 2, slots := 3, locals := 88 } : Room).slots) (T1.setTop (mkF m 4 #[.val (.ref a1)] [(.ref b_1)]))
  exact o_ret X1 hx hlk (t := (.object "java/util/List")) hret rfl (Or.inr (Or.inr (Or.inr (Or.inr ⟨rfl, rfl, rfl⟩)))) (hb hby d9_4) (by decide) (by decide) e1_2 ⟨b_1, rfl, N1, KK1_h0, s_b_1_h0, qE_1⟩
def Qepi1 (Z : State) (a1 : Addr) (nx : Addr) (l1 : Addr) (b1 : Addr) (k1 : ClassId) (e1 : Addr) (mo : Addr) (em : Addr) (h0 : Heap) (n0 : Nat) (v : Option Value) (h : Heap) (L : List Loc) : Prop := v = none ∧ Fr n0 L ∧ Keep h0 h [a1] ∧ Exa Z h a1 "com/example/hybrev/hybrev/EventPage" ∧ Fld Z h a1 "com/example/hybrev/hybrev/EventPage" "next" "Ljava/lang/String;" (.ref nx)
set_option maxRecDepth 65536 in
set_option maxHeartbeats 40000000 in
theorem rmepi1 (l : Launch) (Z : State) (a0 : Array Value) (hw : ∀ d ∈ tables_1, d.before a0 Z = true) (a1 : Addr) (nx : Addr) (l1 : Addr) (b1 : Addr) (k1 : ClassId) (e1 : Addr) (mo : Addr) (em : Addr) (h0 : Heap) (n0 : Nat) (O0 : Old Z n0 h0) (E_a1 : Exa Z h0 a1 "com/example/hybrev/hybrev/EventPage") (F_a1_events : Fld Z h0 a1 "com/example/hybrev/hybrev/EventPage" "events" "Ljava/util/List;" .null) (F_a1_next : Fld Z h0 a1 "com/example/hybrev/hybrev/EventPage" "next" "Ljava/lang/String;" .null) (E_nx : Exa Z h0 nx "java/lang/String") (E_l1 : Exa Z h0 l1 "java/util/ArrayList") (F_l1_elementData : Fld Z h0 l1 "java/util/ArrayList" "elementData" "[Ljava/lang/Object;" (.ref b1)) (F_l1_size : Fld Z h0 l1 "java/util/ArrayList" "size" "I" (.int (1 : Int32))) (E_b1 : Exa Z h0 b1 "[Ljava/lang/Object;") (A_b1 : Arv Z h0 b1 k1 (.object "java/lang/Object") (10 : Int32) [(.ref e1), .null, .null, .null, .null, .null, .null, .null, .null, .null] .null) (E_e1 : Exa Z h0 e1 "com/example/hybrev/hybrev/RevocationEvent") (hM : Mir Z "[Ljava/lang/Object;" mo) (S_EMPTY : Sta Z Z.heap "java/util/ImmutableCollections" "EMPTY" "Ljava/lang/Object;" (.ref em)) (na1 : n0 ≤ a1) (nel : a1 ≠ l1) (neb : a1 ≠ b1) :
    MetH l Z consts_1 (⟨"com/example/hybrev/hybrev/EventPage", "<init>", "(Ljava/util/List;Ljava/lang/String;)V"⟩ : MethodName) prog_5_method_2_code 3 none ({ frames := 8, cells := 4, slots := 23, locals := 101 } : Room) [] #[(.ref a1), (.ref l1), (.ref nx)] h0 [a1] (Qepi1 Z a1 nx l1 b1 k1 e1 mo em h0 n0) := by
  refine metH_of (L0 := #[.val (.ref a1), .val (.ref l1), .val (.ref nx)]) (plainFor_of_name pn14) (fun m => by first | (simp [entryFrame, mkF, argsToLocals, Value.category]; done) | rfl) ?_
  intro p e s m below meth c T0 hx hby hml hown hnm hret hlk hZ B0 hS0 X0 e0
  have N0 := Fr.nil n0
  have sf_a1 := hS0 a1 (List.mem_of_getElem? (i := 0) rfl)
  have KK0 : Keep h0 h0 [a1] := Keep.refl _ _
  refine o_aloadN X0 hx (hb hby d8_0) rfl rfl rfl ?_
  refine o_initO X0 hx hZ hown (wd61 hw) (wd19 hw) (wd20 hw) e0 (by rw [hml]; rfl) (hb hby d8_1) (by decide) (W := 0) rfl (by decide) rfl fun T1 X1 e1_2 => ?_
  refine o_aloadN X1 hx (hb hby d8_4) rfl rfl rfl ?_
  refine o_aloadN X1 hx (hb hby d8_5) rfl rfl rfl ?_
  refine o_static X1 hx hZ hown (wd62 hw) (wd63 hw) (by decide) (rmlco1 l Z a0 hw l1 b1 k1 e1 mo em h0 n0 O0 E_l1 F_l1_elementData F_l1_size E_b1 A_b1 E_e1 hM S_EMPTY) (wd65 hw) (wd64 hw) e1_2 (by rw [hml]; rfl) (argsL := [(.ref l1)]) (rest := [(.ref a1)]) (W := 1) pd14 rfl rfl rfl rfl (hb hby d8_6) (by decide) (by decide) (by decide) (by decide) (cells' := 2) (slots' := 3) rfl rfl rfl fun v6 T6 h6 Lc6 X6 e6 hq6 => ?_
  obtain ⟨b_6, rfl, N6q, K6, hb_6, qE_6⟩ := hq6
  have N6 := Fr.app N0 N6q
  have s_b_6_h0 : h0.size ≤ b_6 := Nat.le_trans KK0.1 hb_6
  have n_b_6 : n0 ≤ b_6 := Nat.le_trans (O0.1 ▸ O0.2.1) hb_6
  have KK6_h0 : Keep h0 h6 [a1] := KK0.trans K6 all0
  have OK6 : Old Z n0 h6 := O0.keep K6 all0
  have BK6 : HB Z consts_1 s s h0 h6 := B0.keep K6 sl0
  have sf_a1_2 : Safe Z consts_1 s.vm h6 a1 := own_sfK B0.ch K6 sl0 sf_a1
  have sf_b_6 : Safe Z consts_1 s.vm h6 b_6 := own_sfK B0.ch K6 sl0 (Safe.new (Z := Z) (EL := consts_1) (vm := s.vm) hb_6)
  show Goes p.tables e below (EndsH Z consts_1 s h0 (Qepi1 Z a1 nx l1 b1 k1 e1 mo em h0 n0) ({ frames := 8, cells := 4, slots := 23, locals := 101 } : Room).cells ({ frames := 8, cells := 4, slots := 23, locals := 101 } : Room).slots) (T6.setTop (mkF m 9 #[.val (.ref a1), .val (.ref l1), .val (.ref nx)] [(.ref b_6), (.ref a1)]))
  have fF9 : Fld Z h6 a1 "com/example/hybrev/hybrev/EventPage" "events" "Ljava/util/List;" .null := (F_a1_events.keep K6 nin0)
  have fE9 : Exa Z h6 a1 "com/example/hybrev/hybrev/EventPage" := (E_a1.keep K6)
  refine o_putF X6 hx hZ hown (host := "") (Or.inl (wd91 hw)) Via.refl e6 fF9 fE9 (Or.inr ⟨(wd92 hw), rfl, hnm⟩) (wd56 hw) (ty := (.object "java/util/List")) (by decide) rfl rfl (hb hby d8_9) rfl fun T9 h9 X9 e9 W9 => ?_
  have F9 : Fld Z h9 a1 "com/example/hybrev/hybrev/EventPage" "events" "Ljava/util/List;" (.ref b_6) := fF9.same W9
  have N9 := Fr.snoc X9 N6 na1
  have KW9_h0 : Keep h0 h9 [a1] := KK6_h0.wr W9 (Or.inl (List.mem_of_getElem? (i := 0) rfl))
  have OW9 : Old Z n0 h9 := OK6.wr W9 na1
  have BW9 : HB Z consts_1 s s h0 h9 := BK6.wr W9 sf_a1_2
  have sf_a1_3 : Safe Z consts_1 s.vm h9 a1 := own_sfW BK6.ch W9 sf_a1_2 sf_a1_2
  have sf_b_6_2 : Safe Z consts_1 s.vm h9 b_6 := own_sfW BK6.ch W9 sf_a1_2 sf_b_6
  refine o_aloadN X9 hx (hb hby d8_12) rfl rfl rfl ?_
  refine o_aloadN X9 hx (hb hby d8_13) rfl rfl rfl ?_
  have fE14 : Exa Z h9 a1 "com/example/hybrev/hybrev/EventPage" := (fE9.wr W9)
  have fE14_2 : Exa Z h9 b_6 "java/util/ImmutableCollections$List12" := (qE_6.wr W9)
  refine o_ldcF X9 hx hZ hown (wd93 hw) (own_sa hw) e9 BW9 (own_EW hw) (by decide) (vs := [(.int (110 : Int32)), (.int (101 : Int32)), (.int (120 : Int32)), (.int (116 : Int32))]) (z := (4 : Int32)) ⟨by decide, by decide +kernel⟩ (by decide) rfl (hb hby d8_14) (n := 16) (by decide) (by decide) (by decide) (by decide) (cells' := 4) (slots' := 23) rfl rfl rfl fun s14 T14 h14 a14 b14 kb14 X14 e14 E14 B14 hZ14 hown14 Ea14 Fc14 Fv14 (Ab14 : Arv Z h14 b14 kb14 .byte (4 : Int32) [(.int (110 : Int32)), (.int (101 : Int32)), (.int (120 : Int32)), (.int (116 : Int32))] (.int (0 : Int32))) hS14 hN14 => ?_
  have KE14_h0 : Keep h0 h14 [a1] := KW9_h0.ext E14
  have OE14 : Old Z n0 h14 := OW9.ext E14
  have sf_a1_4 := hS14 a1 fE14.lt sf_a1_3
  have nS14 := hN14 a1 fE14.lt sf_a1_3
  have sf_b_6_3 := hS14 b_6 fE14_2.lt sf_b_6_2
  have nS14_2 := hN14 b_6 fE14_2.lt sf_b_6_2
  refine o_static X14 hx hZ14 hown14 (wd94 hw) (wd95 hw) (by decide) (rm13 l Z a0 hw nx a14 h14 n0 OE14 ) (wd97 hw) (wd96 hw) e14 (by rw [hml]; rfl) (argsL := [(.ref nx), (.ref a14)]) (rest := [(.ref a1)]) (W := 1) pd15 rfl rfl rfl rfl (hb hby d8_16) (by decide) (by decide) (by decide) (by decide) (cells' := 4) (slots' := 23) rfl rfl rfl fun v16 T16 h16 Lc16 X16 e16 hq16 => ?_
  obtain ⟨rfl, N16q, K16⟩ := hq16
  have N16 := Fr.app N9 N16q
  have e16_2 : T16.heap = h14 := e16.trans K16
  show Goes p.tables e below (EndsH Z consts_1 s h0 (Qepi1 Z a1 nx l1 b1 k1 e1 mo em h0 n0) ({ frames := 8, cells := 4, slots := 23, locals := 101 } : Room).cells ({ frames := 8, cells := 4, slots := 23, locals := 101 } : Room).slots) (T16.setTop (mkF m 19 #[.val (.ref a1), .val (.ref l1), .val (.ref nx)] [(.ref nx), (.ref a1)]))
  have fE19 : Exa Z h14 nx "java/lang/String" := (((E_nx.keep K6).wr W9).ext E14)
  refine o_castY X16 hx hZ14 hown14 (wd98 hw) e16_2 (Ins.self fE19) (hb hby d8_19) rfl fun T19 X19 e19 => ?_
  have fF22 : Fld Z h14 a1 "com/example/hybrev/hybrev/EventPage" "next" "Ljava/lang/String;" .null := (((F_a1_next.keep K6 nin0).other W9 (Or.inr (slot_ne (Z := Z) (a0 := a0) (Or.inr (wd100 hw)) (Or.inr (wd92 hw)) (by decide) (t := (.object "java/lang/String")) (t' := (.object "java/util/List")) (by decide) (by decide)))).ext E14)
  have fE22 : Exa Z h14 a1 "com/example/hybrev/hybrev/EventPage" := (fE14.ext E14)
  refine o_putF X19 hx hZ14 hown14 (host := "") (Or.inl (wd99 hw)) Via.refl e19 fF22 fE22 (Or.inr ⟨(wd100 hw), rfl, hnm⟩) (wd56 hw) (ty := (.object "java/lang/String")) (by decide) rfl rfl (hb hby d8_22) rfl fun T22 h22 X22 e22 W22 => ?_
  have F22 : Fld Z h22 a1 "com/example/hybrev/hybrev/EventPage" "next" "Ljava/lang/String;" (.ref nx) := fF22.same W22
  have N22 := Fr.snoc X22 N16 na1
  have KW22_h0 : Keep h0 h22 [a1] := KE14_h0.wr W22 (Or.inl (List.mem_of_getElem? (i := 0) rfl))
  have OW22 : Old Z n0 h22 := OE14.wr W22 na1
  have BW22 : HB Z consts_1 s s14 h0 h22 := B14.wr W22 sf_a1_4
  have sf_a1_5 : Safe Z consts_1 s14.vm h22 a1 := own_sfW B14.ch W22 sf_a1_4 sf_a1_4
  have sf_b_6_4 : Safe Z consts_1 s14.vm h22 b_6 := own_sfW B14.ch W22 sf_a1_4 sf_b_6_3
  have fE25 : Exa Z h22 a1 "com/example/hybrev/hybrev/EventPage" := (fE22.wr W22)
  exact o_retVH X22 hx hlk hret (hb hby d8_25) (by decide) (by decide) e22 hZ14 (own_EW hw) BW22 ⟨rfl, N22, KW22_h0, fE25, F22⟩
def Qlc2 (Z : State) (a1 : Addr) (b1 : Addr) (k1 : ClassId) (e1 : Addr) (e2 : Addr) (mo : Addr) (em : Addr) (h0 : Heap) (n0 : Nat) (v : Option Value) (h : Heap) (L : List Loc) : Prop := ∃ b : Addr, v = some (.ref b) ∧ Fr n0 L ∧ Keep h0 h [] ∧ (h0.size ≤ b) ∧ Exa Z h b "java/util/ImmutableCollections$List12"
set_option maxRecDepth 65536 in
set_option maxHeartbeats 40000000 in
theorem rmlc2 (l : Launch) (Z : State) (a0 : Array Value) (hw : ∀ d ∈ tables_1, d.before a0 Z = true) (a1 : Addr) (b1 : Addr) (k1 : ClassId) (e1 : Addr) (e2 : Addr) (mo : Addr) (em : Addr) (h0 : Heap) (n0 : Nat) (O0 : Old Z n0 h0) (E_a1 : Exa Z h0 a1 "java/util/ArrayList") (F_a1_elementData : Fld Z h0 a1 "java/util/ArrayList" "elementData" "[Ljava/lang/Object;" (.ref b1)) (F_a1_size : Fld Z h0 a1 "java/util/ArrayList" "size" "I" (.int (2 : Int32))) (E_b1 : Exa Z h0 b1 "[Ljava/lang/Object;") (A_b1 : Arv Z h0 b1 k1 (.object "java/lang/Object") (10 : Int32) [(.ref e1), (.ref e2), .null, .null, .null, .null, .null, .null, .null, .null] .null) (E_e1 : Exa Z h0 e1 "com/example/hybrev/hybrev/RevocationEvent") (E_e2 : Exa Z h0 e2 "com/example/hybrev/hybrev/RevocationEvent") (hM : Mir Z "[Ljava/lang/Object;" mo) (S_EMPTY : Sta Z Z.heap "java/util/ImmutableCollections" "EMPTY" "Ljava/lang/Object;" (.ref em)) :
    Met l Z (⟨"java/util/ImmutableCollections", "listCopy", "(Ljava/util/Collection;)Ljava/util/List;"⟩ : MethodName) jdk_56_method_3_code 2 (some (.object "java/util/List")) ({ frames := 6, cells := 2, slots := 4, locals := 76 } : Room) [] #[(.ref a1)] h0 (Qlc2 Z a1 b1 k1 e1 e2 mo em h0 n0) := by
  refine met_of (L0 := #[.val (.ref a1), .unset]) (plainFor_of_name pn13) (fun m => by first | (simp [entryFrame, mkF, argsToLocals, Value.category]; done) | rfl) ?_
  intro p e s m below meth c T0 hx hby hml hown hnm hret hlk hZ X0 e0
  have N0 := Fr.nil n0
  have KK0 : Keep h0 h0 [] := Keep.refl _ _
  refine o_aloadN X0 hx (hb hby d10_0) rfl rfl rfl ?_
  refine o_instNo X0 hx hZ hown (wd70 hw) e0 E_a1 (own_no12 hw) (hb hby d10_1) rfl fun T1 X1 e1_2 => ?_
  refine o_ifNo X1 hx (hb hby d10_4) ((if0 _ _).trans (teq (by decide)).2) rfl ?_
  refine o_aloadN X1 hx (hb hby d10_7) rfl rfl rfl ?_
  refine o_instNo X1 hx hZ hown (wd75 hw) e1_2 E_a1 (own_noN hw) (hb hby d10_8) rfl fun T8 X8 e8 => ?_
  refine o_ifYes X8 hx (hb hby d10_11) ((if0 _ _).trans (teq (by decide)).1) (by decide) (pc' := 31) (by decide) ?_
  refine o_aloadN X8 hx (hb hby d10_31) rfl rfl rfl ?_
  refine o_iface X8 hx hZ (C := "java/util/ArrayList") hown (wd76 hw) (wd77 hw) (mvT hZ (wd78 hw)) (wd79 hw) (wd80 hw) (wd81 hw) (wd82 hw) (wd83 hw) (by decide) E_a1 (rmiz2 l Z a0 hw a1 h0 n0 O0 F_a1_size) (wd84 hw) (wd2 hw) e8 (by rw [hml]; rfl) (argsL := []) (rest := []) (W := 0) pd12 rfl rfl rfl rfl (hb hby d10_32) (by decide) (by decide) (by decide) (by decide) (cells' := 0) (slots' := 0) rfl rfl rfl fun v32 T32 h32 Lc32 X32 e32 hq32 => ?_
  obtain ⟨rfl, N32q, K32⟩ := hq32
  have N32 := Fr.app N0 N32q
  have e32_2 : T32.heap = h0 := e32.trans K32
  show Goes p.tables e below (Ends s (Qlc2 Z a1 b1 k1 e1 e2 mo em h0 n0) ({ frames := 6, cells := 2, slots := 4, locals := 76 } : Room).cells ({ frames := 6, cells := 2, slots := 4, locals := 76 } : Room).slots) (T32.setTop (mkF m 37 #[.val (.ref a1), .unset] [(.int (0 : Int32))]))
  refine o_ifYes X32 hx (hb hby d10_37) ((if0 _ _).trans (teq (by decide)).1) (by decide) (pc' := 44) (by decide) ?_
  refine o_aloadN X32 hx (hb hby d10_44) rfl rfl rfl ?_
  refine o_iface X32 hx hZ (C := "java/util/ArrayList") hown (wd184 hw) (wd185 hw) (mvT hZ (wd186 hw)) (wd187 hw) (wd188 hw) (wd189 hw) (wd190 hw) (wd83 hw) (by decide) E_a1 (rmta2 l Z a0 hw a1 b1 k1 e1 e2 mo h0 n0 O0 F_a1_elementData F_a1_size E_b1 A_b1 E_e1 E_e2 hM) (wd191 hw) (wd2 hw) e32_2 (by rw [hml]; rfl) (argsL := []) (rest := []) (W := 0) pd5 rfl rfl rfl rfl (hb hby d10_45) (by decide) (by decide) (by decide) (by decide) (cells' := 1) (slots' := 2) rfl rfl rfl fun v45 T45 h45 Lc45 X45 e45 hq45 => ?_
  obtain ⟨t_45, k_45, rfl, N45q, K45, ht_45, qA_45⟩ := hq45
  have N45 := Fr.app N32 N45q
  have s_t_45_h0 : h0.size ≤ t_45 := Nat.le_trans KK0.1 ht_45
  have n_t_45 : n0 ≤ t_45 := Nat.le_trans (O0.1 ▸ O0.2.1) ht_45
  have KK45_h0 : Keep h0 h45 [] := KK0.trans K45 all0
  have OK45 : Old Z n0 h45 := O0.keep K45 all0
  show Goes p.tables e below (Ends s (Qlc2 Z a1 b1 k1 e1 e2 mo em h0 n0) ({ frames := 6, cells := 2, slots := 4, locals := 76 } : Room).cells ({ frames := 6, cells := 2, slots := 4, locals := 76 } : Room).slots) (T45.setTop (mkF m 50 #[.val (.ref a1), .unset] [(.ref t_45)]))
  refine o_static X45 hx hZ hown (wd214 hw) (wd215 hw) (by decide) (rmlof2 l Z a0 hw t_45 k_45 e1 e2 em h45 n0 OK45 qA_45 S_EMPTY) (wd216 hw) (wd64 hw) e45 (by rw [hml]; rfl) (argsL := [(.ref t_45)]) (rest := []) (W := 0) pd16 rfl rfl rfl rfl (hb hby d10_50) (by decide) (by decide) (by decide) (by decide) (cells' := 2) (slots' := 4) rfl rfl rfl fun v50 T50 h50 Lc50 X50 e50 hq50 => ?_
  obtain ⟨b_50, rfl, N50q, K50, hb_50, qE_50⟩ := hq50
  have N50 := Fr.app N45 N50q
  have s_b_50_h0 : h0.size ≤ b_50 := Nat.le_trans KK45_h0.1 hb_50
  have n_b_50 : n0 ≤ b_50 := Nat.le_trans (OK45.1 ▸ OK45.2.1) hb_50
  have KK50_h0 : Keep h0 h50 [] := KK45_h0.trans K50 all0
  have OK50 : Old Z n0 h50 := OK45.keep K50 all0
  show Goes p.tables e below (Ends s (Qlc2 Z a1 b1 k1 e1 e2 mo em h0 n0) ({ frames := 6, cells := 2, slots := 4, locals := 76 } : Room).cells ({ frames := 6, cells := 2, slots := 4, locals := 76 } : Room).slots) (T50.setTop (mkF m 53 #[.val (.ref a1), .unset] [(.ref b_50)]))
  exact o_ret X50 hx hlk (t := (.object "java/util/List")) hret rfl (Or.inr (Or.inr (Or.inr (Or.inr ⟨rfl, rfl, rfl⟩)))) (hb hby d10_53) (by decide) (by decide) e50 ⟨b_50, rfl, N50, KK50_h0, s_b_50_h0, qE_50⟩
def Qlco2 (Z : State) (a1 : Addr) (b1 : Addr) (k1 : ClassId) (e1 : Addr) (e2 : Addr) (mo : Addr) (em : Addr) (h0 : Heap) (n0 : Nat) (v : Option Value) (h : Heap) (L : List Loc) : Prop := ∃ b : Addr, v = some (.ref b) ∧ Fr n0 L ∧ Keep h0 h [] ∧ (h0.size ≤ b) ∧ Exa Z h b "java/util/ImmutableCollections$List12"
set_option maxRecDepth 65536 in
set_option maxHeartbeats 40000000 in
theorem rmlco2 (l : Launch) (Z : State) (a0 : Array Value) (hw : ∀ d ∈ tables_1, d.before a0 Z = true) (a1 : Addr) (b1 : Addr) (k1 : ClassId) (e1 : Addr) (e2 : Addr) (mo : Addr) (em : Addr) (h0 : Heap) (n0 : Nat) (O0 : Old Z n0 h0) (E_a1 : Exa Z h0 a1 "java/util/ArrayList") (F_a1_elementData : Fld Z h0 a1 "java/util/ArrayList" "elementData" "[Ljava/lang/Object;" (.ref b1)) (F_a1_size : Fld Z h0 a1 "java/util/ArrayList" "size" "I" (.int (2 : Int32))) (E_b1 : Exa Z h0 b1 "[Ljava/lang/Object;") (A_b1 : Arv Z h0 b1 k1 (.object "java/lang/Object") (10 : Int32) [(.ref e1), (.ref e2), .null, .null, .null, .null, .null, .null, .null, .null] .null) (E_e1 : Exa Z h0 e1 "com/example/hybrev/hybrev/RevocationEvent") (E_e2 : Exa Z h0 e2 "com/example/hybrev/hybrev/RevocationEvent") (hM : Mir Z "[Ljava/lang/Object;" mo) (S_EMPTY : Sta Z Z.heap "java/util/ImmutableCollections" "EMPTY" "Ljava/lang/Object;" (.ref em)) :
    Met l Z (⟨"java/util/List", "copyOf", "(Ljava/util/Collection;)Ljava/util/List;"⟩ : MethodName) jdk_40_method_48_code 1 (some (.object "java/util/List")) ({ frames := 7, cells := 2, slots := 4, locals := 89 } : Room) [] #[(.ref a1)] h0 (Qlco2 Z a1 b1 k1 e1 e2 mo em h0 n0) := by
  refine met_of (L0 := #[.val (.ref a1)]) (plainFor_of_name pn11) (fun m => by first | (simp [entryFrame, mkF, argsToLocals, Value.category]; done) | rfl) ?_
  intro p e s m below meth c T0 hx hby hml hown hnm hret hlk hZ X0 e0
  have N0 := Fr.nil n0
  have KK0 : Keep h0 h0 [] := Keep.refl _ _
  refine o_aloadN X0 hx (hb hby d9_0) rfl rfl rfl ?_
  refine o_static X0 hx hZ hown (wd66 hw) (wd67 hw) (by decide) (rmlc2 l Z a0 hw a1 b1 k1 e1 e2 mo em h0 n0 O0 E_a1 F_a1_elementData F_a1_size E_b1 A_b1 E_e1 E_e2 hM S_EMPTY) (wd69 hw) (wd68 hw) e0 (by rw [hml]; rfl) (argsL := [(.ref a1)]) (rest := []) (W := 0) pd14 rfl rfl rfl rfl (hb hby d9_1) (by decide) (by decide) (by decide) (by decide) (cells' := 2) (slots' := 4) rfl rfl rfl fun v1 T1 h1 Lc1 X1 e1_2 hq1 => ?_
  obtain ⟨b_1, rfl, N1q, K1, hb_1, qE_1⟩ := hq1
  have N1 := Fr.app N0 N1q
  have s_b_1_h0 : h0.size ≤ b_1 := Nat.le_trans KK0.1 hb_1
  have n_b_1 : n0 ≤ b_1 := Nat.le_trans (O0.1 ▸ O0.2.1) hb_1
  have KK1_h0 : Keep h0 h1 [] := KK0.trans K1 all0
  have OK1 : Old Z n0 h1 := O0.keep K1 all0
  show Goes p.tables e below (Ends s (Qlco2 Z a1 b1 k1 e1 e2 mo em h0 n0) ({ frames := 7, cells := 2, slots := 4, locals := 89 } : Room).cells ({ frames := 7, cells := 2, slots := 4, locals := 89 } : Room).slots) (T1.setTop (mkF m 4 #[.val (.ref a1)] [(.ref b_1)]))
  exact o_ret X1 hx hlk (t := (.object "java/util/List")) hret rfl (Or.inr (Or.inr (Or.inr (Or.inr ⟨rfl, rfl, rfl⟩)))) (hb hby d9_4) (by decide) (by decide) e1_2 ⟨b_1, rfl, N1, KK1_h0, s_b_1_h0, qE_1⟩
def Qepi2 (Z : State) (a1 : Addr) (nx : Addr) (l1 : Addr) (b1 : Addr) (k1 : ClassId) (e1 : Addr) (e2 : Addr) (mo : Addr) (em : Addr) (h0 : Heap) (n0 : Nat) (v : Option Value) (h : Heap) (L : List Loc) : Prop := v = none ∧ Fr n0 L ∧ Keep h0 h [a1] ∧ Exa Z h a1 "com/example/hybrev/hybrev/EventPage" ∧ Fld Z h a1 "com/example/hybrev/hybrev/EventPage" "next" "Ljava/lang/String;" (.ref nx)
set_option maxRecDepth 65536 in
set_option maxHeartbeats 40000000 in
theorem rmepi2 (l : Launch) (Z : State) (a0 : Array Value) (hw : ∀ d ∈ tables_1, d.before a0 Z = true) (a1 : Addr) (nx : Addr) (l1 : Addr) (b1 : Addr) (k1 : ClassId) (e1 : Addr) (e2 : Addr) (mo : Addr) (em : Addr) (h0 : Heap) (n0 : Nat) (O0 : Old Z n0 h0) (E_a1 : Exa Z h0 a1 "com/example/hybrev/hybrev/EventPage") (F_a1_events : Fld Z h0 a1 "com/example/hybrev/hybrev/EventPage" "events" "Ljava/util/List;" .null) (F_a1_next : Fld Z h0 a1 "com/example/hybrev/hybrev/EventPage" "next" "Ljava/lang/String;" .null) (E_nx : Exa Z h0 nx "java/lang/String") (E_l1 : Exa Z h0 l1 "java/util/ArrayList") (F_l1_elementData : Fld Z h0 l1 "java/util/ArrayList" "elementData" "[Ljava/lang/Object;" (.ref b1)) (F_l1_size : Fld Z h0 l1 "java/util/ArrayList" "size" "I" (.int (2 : Int32))) (E_b1 : Exa Z h0 b1 "[Ljava/lang/Object;") (A_b1 : Arv Z h0 b1 k1 (.object "java/lang/Object") (10 : Int32) [(.ref e1), (.ref e2), .null, .null, .null, .null, .null, .null, .null, .null] .null) (E_e1 : Exa Z h0 e1 "com/example/hybrev/hybrev/RevocationEvent") (E_e2 : Exa Z h0 e2 "com/example/hybrev/hybrev/RevocationEvent") (hM : Mir Z "[Ljava/lang/Object;" mo) (S_EMPTY : Sta Z Z.heap "java/util/ImmutableCollections" "EMPTY" "Ljava/lang/Object;" (.ref em)) (na1 : n0 ≤ a1) (nel : a1 ≠ l1) (neb : a1 ≠ b1) :
    MetH l Z consts_1 (⟨"com/example/hybrev/hybrev/EventPage", "<init>", "(Ljava/util/List;Ljava/lang/String;)V"⟩ : MethodName) prog_5_method_2_code 3 none ({ frames := 8, cells := 4, slots := 24, locals := 102 } : Room) [] #[(.ref a1), (.ref l1), (.ref nx)] h0 [a1] (Qepi2 Z a1 nx l1 b1 k1 e1 e2 mo em h0 n0) := by
  refine metH_of (L0 := #[.val (.ref a1), .val (.ref l1), .val (.ref nx)]) (plainFor_of_name pn14) (fun m => by first | (simp [entryFrame, mkF, argsToLocals, Value.category]; done) | rfl) ?_
  intro p e s m below meth c T0 hx hby hml hown hnm hret hlk hZ B0 hS0 X0 e0
  have N0 := Fr.nil n0
  have sf_a1 := hS0 a1 (List.mem_of_getElem? (i := 0) rfl)
  have KK0 : Keep h0 h0 [a1] := Keep.refl _ _
  refine o_aloadN X0 hx (hb hby d8_0) rfl rfl rfl ?_
  refine o_initO X0 hx hZ hown (wd61 hw) (wd19 hw) (wd20 hw) e0 (by rw [hml]; rfl) (hb hby d8_1) (by decide) (W := 0) rfl (by decide) rfl fun T1 X1 e1_2 => ?_
  refine o_aloadN X1 hx (hb hby d8_4) rfl rfl rfl ?_
  refine o_aloadN X1 hx (hb hby d8_5) rfl rfl rfl ?_
  refine o_static X1 hx hZ hown (wd62 hw) (wd63 hw) (by decide) (rmlco2 l Z a0 hw l1 b1 k1 e1 e2 mo em h0 n0 O0 E_l1 F_l1_elementData F_l1_size E_b1 A_b1 E_e1 E_e2 hM S_EMPTY) (wd65 hw) (wd64 hw) e1_2 (by rw [hml]; rfl) (argsL := [(.ref l1)]) (rest := [(.ref a1)]) (W := 1) pd14 rfl rfl rfl rfl (hb hby d8_6) (by decide) (by decide) (by decide) (by decide) (cells' := 2) (slots' := 4) rfl rfl rfl fun v6 T6 h6 Lc6 X6 e6 hq6 => ?_
  obtain ⟨b_6, rfl, N6q, K6, hb_6, qE_6⟩ := hq6
  have N6 := Fr.app N0 N6q
  have s_b_6_h0 : h0.size ≤ b_6 := Nat.le_trans KK0.1 hb_6
  have n_b_6 : n0 ≤ b_6 := Nat.le_trans (O0.1 ▸ O0.2.1) hb_6
  have KK6_h0 : Keep h0 h6 [a1] := KK0.trans K6 all0
  have OK6 : Old Z n0 h6 := O0.keep K6 all0
  have BK6 : HB Z consts_1 s s h0 h6 := B0.keep K6 sl0
  have sf_a1_2 : Safe Z consts_1 s.vm h6 a1 := own_sfK B0.ch K6 sl0 sf_a1
  have sf_b_6 : Safe Z consts_1 s.vm h6 b_6 := own_sfK B0.ch K6 sl0 (Safe.new (Z := Z) (EL := consts_1) (vm := s.vm) hb_6)
  show Goes p.tables e below (EndsH Z consts_1 s h0 (Qepi2 Z a1 nx l1 b1 k1 e1 e2 mo em h0 n0) ({ frames := 8, cells := 4, slots := 24, locals := 102 } : Room).cells ({ frames := 8, cells := 4, slots := 24, locals := 102 } : Room).slots) (T6.setTop (mkF m 9 #[.val (.ref a1), .val (.ref l1), .val (.ref nx)] [(.ref b_6), (.ref a1)]))
  have fF9 : Fld Z h6 a1 "com/example/hybrev/hybrev/EventPage" "events" "Ljava/util/List;" .null := (F_a1_events.keep K6 nin0)
  have fE9 : Exa Z h6 a1 "com/example/hybrev/hybrev/EventPage" := (E_a1.keep K6)
  refine o_putF X6 hx hZ hown (host := "") (Or.inl (wd91 hw)) Via.refl e6 fF9 fE9 (Or.inr ⟨(wd92 hw), rfl, hnm⟩) (wd56 hw) (ty := (.object "java/util/List")) (by decide) rfl rfl (hb hby d8_9) rfl fun T9 h9 X9 e9 W9 => ?_
  have F9 : Fld Z h9 a1 "com/example/hybrev/hybrev/EventPage" "events" "Ljava/util/List;" (.ref b_6) := fF9.same W9
  have N9 := Fr.snoc X9 N6 na1
  have KW9_h0 : Keep h0 h9 [a1] := KK6_h0.wr W9 (Or.inl (List.mem_of_getElem? (i := 0) rfl))
  have OW9 : Old Z n0 h9 := OK6.wr W9 na1
  have BW9 : HB Z consts_1 s s h0 h9 := BK6.wr W9 sf_a1_2
  have sf_a1_3 : Safe Z consts_1 s.vm h9 a1 := own_sfW BK6.ch W9 sf_a1_2 sf_a1_2
  have sf_b_6_2 : Safe Z consts_1 s.vm h9 b_6 := own_sfW BK6.ch W9 sf_a1_2 sf_b_6
  refine o_aloadN X9 hx (hb hby d8_12) rfl rfl rfl ?_
  refine o_aloadN X9 hx (hb hby d8_13) rfl rfl rfl ?_
  have fE14 : Exa Z h9 a1 "com/example/hybrev/hybrev/EventPage" := (fE9.wr W9)
  have fE14_2 : Exa Z h9 b_6 "java/util/ImmutableCollections$List12" := (qE_6.wr W9)
  refine o_ldcF X9 hx hZ hown (wd93 hw) (own_sa hw) e9 BW9 (own_EW hw) (by decide) (vs := [(.int (110 : Int32)), (.int (101 : Int32)), (.int (120 : Int32)), (.int (116 : Int32))]) (z := (4 : Int32)) ⟨by decide, by decide +kernel⟩ (by decide) rfl (hb hby d8_14) (n := 16) (by decide) (by decide) (by decide) (by decide) (cells' := 4) (slots' := 24) rfl rfl rfl fun s14 T14 h14 a14 b14 kb14 X14 e14 E14 B14 hZ14 hown14 Ea14 Fc14 Fv14 (Ab14 : Arv Z h14 b14 kb14 .byte (4 : Int32) [(.int (110 : Int32)), (.int (101 : Int32)), (.int (120 : Int32)), (.int (116 : Int32))] (.int (0 : Int32))) hS14 hN14 => ?_
  have KE14_h0 : Keep h0 h14 [a1] := KW9_h0.ext E14
  have OE14 : Old Z n0 h14 := OW9.ext E14
  have sf_a1_4 := hS14 a1 fE14.lt sf_a1_3
  have nS14 := hN14 a1 fE14.lt sf_a1_3
  have sf_b_6_3 := hS14 b_6 fE14_2.lt sf_b_6_2
  have nS14_2 := hN14 b_6 fE14_2.lt sf_b_6_2
  refine o_static X14 hx hZ14 hown14 (wd94 hw) (wd95 hw) (by decide) (rm13 l Z a0 hw nx a14 h14 n0 OE14 ) (wd97 hw) (wd96 hw) e14 (by rw [hml]; rfl) (argsL := [(.ref nx), (.ref a14)]) (rest := [(.ref a1)]) (W := 1) pd15 rfl rfl rfl rfl (hb hby d8_16) (by decide) (by decide) (by decide) (by decide) (cells' := 4) (slots' := 24) rfl rfl rfl fun v16 T16 h16 Lc16 X16 e16 hq16 => ?_
  obtain ⟨rfl, N16q, K16⟩ := hq16
  have N16 := Fr.app N9 N16q
  have e16_2 : T16.heap = h14 := e16.trans K16
  show Goes p.tables e below (EndsH Z consts_1 s h0 (Qepi2 Z a1 nx l1 b1 k1 e1 e2 mo em h0 n0) ({ frames := 8, cells := 4, slots := 24, locals := 102 } : Room).cells ({ frames := 8, cells := 4, slots := 24, locals := 102 } : Room).slots) (T16.setTop (mkF m 19 #[.val (.ref a1), .val (.ref l1), .val (.ref nx)] [(.ref nx), (.ref a1)]))
  have fE19 : Exa Z h14 nx "java/lang/String" := (((E_nx.keep K6).wr W9).ext E14)
  refine o_castY X16 hx hZ14 hown14 (wd98 hw) e16_2 (Ins.self fE19) (hb hby d8_19) rfl fun T19 X19 e19 => ?_
  have fF22 : Fld Z h14 a1 "com/example/hybrev/hybrev/EventPage" "next" "Ljava/lang/String;" .null := (((F_a1_next.keep K6 nin0).other W9 (Or.inr (slot_ne (Z := Z) (a0 := a0) (Or.inr (wd100 hw)) (Or.inr (wd92 hw)) (by decide) (t := (.object "java/lang/String")) (t' := (.object "java/util/List")) (by decide) (by decide)))).ext E14)
  have fE22 : Exa Z h14 a1 "com/example/hybrev/hybrev/EventPage" := (fE14.ext E14)
  refine o_putF X19 hx hZ14 hown14 (host := "") (Or.inl (wd99 hw)) Via.refl e19 fF22 fE22 (Or.inr ⟨(wd100 hw), rfl, hnm⟩) (wd56 hw) (ty := (.object "java/lang/String")) (by decide) rfl rfl (hb hby d8_22) rfl fun T22 h22 X22 e22 W22 => ?_
  have F22 : Fld Z h22 a1 "com/example/hybrev/hybrev/EventPage" "next" "Ljava/lang/String;" (.ref nx) := fF22.same W22
  have N22 := Fr.snoc X22 N16 na1
  have KW22_h0 : Keep h0 h22 [a1] := KE14_h0.wr W22 (Or.inl (List.mem_of_getElem? (i := 0) rfl))
  have OW22 : Old Z n0 h22 := OE14.wr W22 na1
  have BW22 : HB Z consts_1 s s14 h0 h22 := B14.wr W22 sf_a1_4
  have sf_a1_5 : Safe Z consts_1 s14.vm h22 a1 := own_sfW B14.ch W22 sf_a1_4 sf_a1_4
  have sf_b_6_4 : Safe Z consts_1 s14.vm h22 b_6 := own_sfW B14.ch W22 sf_a1_4 sf_b_6_3
  have fE25 : Exa Z h22 a1 "com/example/hybrev/hybrev/EventPage" := (fE22.wr W22)
  exact o_retVH X22 hx hlk hret (hb hby d8_25) (by decide) (by decide) e22 hZ14 (own_EW hw) BW22 ⟨rfl, N22, KW22_h0, fE25, F22⟩
def QimN (Z : State) (a1 : Addr) (h0 : Heap) (n0 : Nat) (v : Option Value) (h : Heap) (L : List Loc) : Prop := v = some (.int (1 : Int32)) ∧ Fr n0 L ∧ h = h0
set_option maxRecDepth 65536 in
set_option maxHeartbeats 40000000 in
theorem rmimN (l : Launch) (Z : State) (a0 : Array Value) (hw : ∀ d ∈ tables_1, d.before a0 Z = true) (a1 : Addr) (h0 : Heap) (n0 : Nat) (O0 : Old Z n0 h0) (F_a1_next : Fld Z h0 a1 "com/example/hybrev/hybrev/EventPage" "next" "Ljava/lang/String;" .null) :
    Met l Z (⟨"com/example/hybrev/hybrev/EventPage", "isMissed", "()Z"⟩ : MethodName) prog_5_method_4_code 1 (some .boolean) ({ frames := 0, cells := 0, slots := 0, locals := 0 } : Room) [] #[(.ref a1)] h0 (QimN Z a1 h0 n0) := by
  refine met_of (L0 := #[.val (.ref a1)]) (plainFor_of_name pn14) (fun m => by first | (simp [entryFrame, mkF, argsToLocals, Value.category]; done) | rfl) ?_
  intro p e s m below meth c T0 hx hby hml hown hnm hret hlk hZ X0 e0
  have N0 := Fr.nil n0
  refine o_aloadN X0 hx (hb hby d14_0) rfl rfl rfl ?_
  refine o_getF X0 hx hZ hown (host := "") (Or.inl (wd99 hw)) Via.refl e0 F_a1_next (hb hby d14_1) rfl fun T1 X1 e1 => ?_
  refine o_ifnonnullNo X1 hx (hb hby d14_4) rfl ?_
  refine o_iconst X1 hx (hb hby d14_7) (v := (1 : Int32)) rfl rfl ?_
  refine o_goto X1 hx (hb hby d14_8) (by decide) (pc' := 12) (by decide) ?_
  exact o_ret X1 hx hlk (t := .boolean) hret rfl (Or.inl ⟨rfl, by decide, _, rfl⟩) (hb hby d14_12) (by decide) (by decide) e1 ⟨rfl, N0, rfl⟩
def QimR (Z : State) (a1 : Addr) (nx : Addr) (h0 : Heap) (n0 : Nat) (v : Option Value) (h : Heap) (L : List Loc) : Prop := v = some (.int (0 : Int32)) ∧ Fr n0 L ∧ h = h0
set_option maxRecDepth 65536 in
set_option maxHeartbeats 40000000 in
theorem rmimR (l : Launch) (Z : State) (a0 : Array Value) (hw : ∀ d ∈ tables_1, d.before a0 Z = true) (a1 : Addr) (nx : Addr) (h0 : Heap) (n0 : Nat) (O0 : Old Z n0 h0) (F_a1_next : Fld Z h0 a1 "com/example/hybrev/hybrev/EventPage" "next" "Ljava/lang/String;" (.ref nx)) :
    Met l Z (⟨"com/example/hybrev/hybrev/EventPage", "isMissed", "()Z"⟩ : MethodName) prog_5_method_4_code 1 (some .boolean) ({ frames := 0, cells := 0, slots := 0, locals := 0 } : Room) [] #[(.ref a1)] h0 (QimR Z a1 nx h0 n0) := by
  refine met_of (L0 := #[.val (.ref a1)]) (plainFor_of_name pn14) (fun m => by first | (simp [entryFrame, mkF, argsToLocals, Value.category]; done) | rfl) ?_
  intro p e s m below meth c T0 hx hby hml hown hnm hret hlk hZ X0 e0
  have N0 := Fr.nil n0
  refine o_aloadN X0 hx (hb hby d14_0) rfl rfl rfl ?_
  refine o_getF X0 hx hZ hown (host := "") (Or.inl (wd99 hw)) Via.refl e0 F_a1_next (hb hby d14_1) rfl fun T1 X1 e1 => ?_
  refine o_ifnonnullYes X1 hx (hb hby d14_4) (by decide) (pc' := 11) (by decide) ?_
  refine o_iconst X1 hx (hb hby d14_11) (v := (0 : Int32)) rfl rfl ?_
  exact o_ret X1 hx hlk (t := .boolean) hret rfl (Or.inl ⟨rfl, by decide, _, rfl⟩) (hb hby d14_12) (by decide) (by decide) e1 ⟨rfl, N0, rfl⟩
def QgnN (Z : State) (a1 : Addr) (h0 : Heap) (n0 : Nat) (v : Option Value) (h : Heap) (L : List Loc) : Prop := v = some .null ∧ Fr n0 L ∧ h = h0
set_option maxRecDepth 65536 in
set_option maxHeartbeats 40000000 in
theorem rmgnN (l : Launch) (Z : State) (a0 : Array Value) (hw : ∀ d ∈ tables_1, d.before a0 Z = true) (a1 : Addr) (h0 : Heap) (n0 : Nat) (O0 : Old Z n0 h0) (F_a1_next : Fld Z h0 a1 "com/example/hybrev/hybrev/EventPage" "next" "Ljava/lang/String;" .null) :
    Met l Z (⟨"com/example/hybrev/hybrev/EventPage", "getNext", "()Ljava/lang/String;"⟩ : MethodName) prog_5_method_6_code 1 (some (.object "java/lang/String")) ({ frames := 0, cells := 0, slots := 0, locals := 0 } : Room) [] #[(.ref a1)] h0 (QgnN Z a1 h0 n0) := by
  refine met_of (L0 := #[.val (.ref a1)]) (plainFor_of_name pn14) (fun m => by first | (simp [entryFrame, mkF, argsToLocals, Value.category]; done) | rfl) ?_
  intro p e s m below meth c T0 hx hby hml hown hnm hret hlk hZ X0 e0
  have N0 := Fr.nil n0
  refine o_aloadN X0 hx (hb hby d15_0) rfl rfl rfl ?_
  refine o_getF X0 hx hZ hown (host := "") (Or.inl (wd99 hw)) Via.refl e0 F_a1_next (hb hby d15_1) rfl fun T1 X1 e1 => ?_
  exact o_ret X1 hx hlk (t := (.object "java/lang/String")) hret rfl (Or.inr (Or.inr (Or.inr (Or.inr ⟨rfl, rfl, rfl⟩)))) (hb hby d15_4) (by decide) (by decide) e1 ⟨rfl, N0, rfl⟩
def QgnR (Z : State) (a1 : Addr) (nx : Addr) (h0 : Heap) (n0 : Nat) (v : Option Value) (h : Heap) (L : List Loc) : Prop := v = some (.ref nx) ∧ Fr n0 L ∧ h = h0
set_option maxRecDepth 65536 in
set_option maxHeartbeats 40000000 in
theorem rmgnR (l : Launch) (Z : State) (a0 : Array Value) (hw : ∀ d ∈ tables_1, d.before a0 Z = true) (a1 : Addr) (nx : Addr) (h0 : Heap) (n0 : Nat) (O0 : Old Z n0 h0) (F_a1_next : Fld Z h0 a1 "com/example/hybrev/hybrev/EventPage" "next" "Ljava/lang/String;" (.ref nx)) :
    Met l Z (⟨"com/example/hybrev/hybrev/EventPage", "getNext", "()Ljava/lang/String;"⟩ : MethodName) prog_5_method_6_code 1 (some (.object "java/lang/String")) ({ frames := 0, cells := 0, slots := 0, locals := 0 } : Room) [] #[(.ref a1)] h0 (QgnR Z a1 nx h0 n0) := by
  refine met_of (L0 := #[.val (.ref a1)]) (plainFor_of_name pn14) (fun m => by first | (simp [entryFrame, mkF, argsToLocals, Value.category]; done) | rfl) ?_
  intro p e s m below meth c T0 hx hby hml hown hnm hret hlk hZ X0 e0
  have N0 := Fr.nil n0
  refine o_aloadN X0 hx (hb hby d15_0) rfl rfl rfl ?_
  refine o_getF X0 hx hZ hown (host := "") (Or.inl (wd99 hw)) Via.refl e0 F_a1_next (hb hby d15_1) rfl fun T1 X1 e1 => ?_
  exact o_ret X1 hx hlk (t := (.object "java/lang/String")) hret rfl (Or.inr (Or.inr (Or.inr (Or.inr ⟨rfl, rfl, rfl⟩)))) (hb hby d15_4) (by decide) (by decide) e1 ⟨rfl, N0, rfl⟩
def Q17 (Z : State) (a1 : Addr) (el : Addr) (h0 : Heap) (n0 : Nat) (v : Option Value) (h : Heap) (L : List Loc) : Prop := v = some (.ref el) ∧ Fr n0 L ∧ h = h0
set_option maxRecDepth 65536 in
set_option maxHeartbeats 40000000 in
theorem rm17 (l : Launch) (Z : State) (a0 : Array Value) (hw : ∀ d ∈ tables_1, d.before a0 Z = true) (a1 : Addr) (el : Addr) (h0 : Heap) (n0 : Nat) (O0 : Old Z n0 h0) (F_a1_events : Fld Z h0 a1 "com/example/hybrev/hybrev/EventPage" "events" "Ljava/util/List;" (.ref el)) :
    Met l Z (⟨"com/example/hybrev/hybrev/EventPage", "getEvents", "()Ljava/util/List;"⟩ : MethodName) prog_5_method_5_code 1 (some (.object "java/util/List")) ({ frames := 0, cells := 0, slots := 0, locals := 0 } : Room) [] #[(.ref a1)] h0 (Q17 Z a1 el h0 n0) := by
  refine met_of (L0 := #[.val (.ref a1)]) (plainFor_of_name pn14) (fun m => by first | (simp [entryFrame, mkF, argsToLocals, Value.category]; done) | rfl) ?_
  intro p e s m below meth c T0 hx hby hml hown hnm hret hlk hZ X0 e0
  have N0 := Fr.nil n0
  refine o_aloadN X0 hx (hb hby d17_0) rfl rfl rfl ?_
  refine o_getF X0 hx hZ hown (host := "") (Or.inl (wd91 hw)) Via.refl e0 F_a1_events (hb hby d17_1) rfl fun T1 X1 e1 => ?_
  exact o_ret X1 hx hlk (t := (.object "java/util/List")) hret rfl (Or.inr (Or.inr (Or.inr (Or.inr ⟨rfl, rfl, rfl⟩)))) (hb hby d17_4) (by decide) (by decide) e1 ⟨rfl, N0, rfl⟩
def Q16 (Z : State) (mp : Addr) (h0 : Heap) (n0 : Nat) (v : Option Value) (h : Heap) (L : List Loc) : Prop := v = some (.ref mp) ∧ Fr n0 L ∧ h = h0
set_option maxRecDepth 65536 in
set_option maxHeartbeats 40000000 in
theorem rm16 (l : Launch) (Z : State) (a0 : Array Value) (hw : ∀ d ∈ tables_1, d.before a0 Z = true) (mp : Addr) (h0 : Heap) (n0 : Nat) (O0 : Old Z n0 h0) (S_MISSED : Sta Z Z.heap "com/example/hybrev/hybrev/EventPage" "MISSED" "Lcom/example/hybrev/hybrev/EventPage;" (.ref mp)) :
    Met l Z (⟨"com/example/hybrev/hybrev/EventPage", "missed", "()Lcom/example/hybrev/hybrev/EventPage;"⟩ : MethodName) prog_5_method_3_code 0 (some (.object "com/example/hybrev/hybrev/EventPage")) ({ frames := 0, cells := 0, slots := 0, locals := 0 } : Room) [] #[] h0 (Q16 Z mp h0 n0) := by
  refine met_of (L0 := #[]) (plainFor_of_name pn14) (fun m => by first | (simp [entryFrame, mkF, argsToLocals, Value.category]; done) | rfl) ?_
  intro p e s m below meth c T0 hx hby hml hown hnm hret hlk hZ X0 e0
  have N0 := Fr.nil n0
  refine o_getS X0 hx hZ hown (host := "") (Or.inl (wd114 hw)) Via.refl e0 (Sta.ext O0.2 S_MISSED) (hb hby d16_0) rfl fun T0_2 X0_2 e0_2 => ?_
  exact o_ret X0_2 hx hlk (t := (.object "com/example/hybrev/hybrev/EventPage")) hret rfl (Or.inr (Or.inr (Or.inr (Or.inr ⟨rfl, rfl, rfl⟩)))) (hb hby d16_3) (by decide) (by decide) e0_2 ⟨rfl, N0, rfl⟩
def Q18 (Z : State) (el : Addr) (ea : Addr) (ke : ClassId) (h0 : Heap) (n0 : Nat) (v : Option Value) (h : Heap) (L : List Loc) : Prop := v = some (.int (1 : Int32)) ∧ Fr n0 L ∧ h = h0
set_option maxRecDepth 65536 in
set_option maxHeartbeats 40000000 in
theorem rm18 (l : Launch) (Z : State) (a0 : Array Value) (hw : ∀ d ∈ tables_1, d.before a0 Z = true) (el : Addr) (ea : Addr) (ke : ClassId) (h0 : Heap) (n0 : Nat) (O0 : Old Z n0 h0) (F_el_elements : Fld Z h0 el "java/util/ImmutableCollections$ListN" "elements" "[Ljava/lang/Object;" (.ref ea)) (A_ea : Arv Z h0 ea ke (.object "java/lang/Object") (0 : Int32) [] .null) :
    Met l Z (⟨"java/util/ImmutableCollections$ListN", "isEmpty", "()Z"⟩ : MethodName) jdk_45_method_2_code 1 (some .boolean) ({ frames := 0, cells := 0, slots := 0, locals := 0 } : Room) [] #[(.ref el)] h0 (Q18 Z el ea ke h0 n0) := by
  refine met_of (L0 := #[.val (.ref el)]) (plainFor_of_name pn15) (fun m => by first | (simp [entryFrame, mkF, argsToLocals, Value.category]; done) | rfl) ?_
  intro p e s m below meth c T0 hx hby hml hown hnm hret hlk hZ X0 e0
  have N0 := Fr.nil n0
  refine o_aloadN X0 hx (hb hby d18_0) rfl rfl rfl ?_
  refine o_getF X0 hx hZ hown (host := "") (Or.inl (wd131 hw)) Via.refl e0 F_el_elements (hb hby d18_1) rfl fun T1 X1 e1 => ?_
  refine o_alen X1 hx hZ e1 A_ea (hb hby d18_4) rfl ?_
  refine o_ifNo X1 hx (hb hby d18_5) ((if0 _ _).trans (teq (by decide)).2) rfl ?_
  refine o_iconst X1 hx (hb hby d18_8) (v := (1 : Int32)) rfl rfl ?_
  refine o_goto X1 hx (hb hby d18_9) (by decide) (pc' := 13) (by decide) ?_
  exact o_ret X1 hx hlk (t := .boolean) hret rfl (Or.inl ⟨rfl, by decide, _, rfl⟩) (hb hby d18_13) (by decide) (by decide) e1 ⟨rfl, N0, rfl⟩
def Q0 (Z : State) (p0 : Int32) (p1 : Int32) (p2 : Int32) (p3 : Int32) (cs : Int32) (de : Addr) (kd : ClassId) (el : Addr) (ea : Addr) (ke : ClassId) (mo : Addr) (em : Addr) (mp : Addr) (tk : Addr) (us : Addr) (h0 : Heap) (n0 : Nat) (v : Option Value) (h : Heap) (L : List Loc) : Prop := v = some (.int (1 : Int32)) ∧ Fr n0 L ∧ Keep h0 h []
set_option maxRecDepth 65536 in
set_option maxHeartbeats 40000000 in
theorem rm0 (l : Launch) (Z : State) (a0 : Array Value) (hw : ∀ d ∈ tables_1, d.before a0 Z = true) (ws : List Jvm.Cond) (p0 : Int32) (p1 : Int32) (p2 : Int32) (p3 : Int32) (cs : Int32) (de : Addr) (kd : ClassId) (el : Addr) (ea : Addr) (ke : ClassId) (mo : Addr) (em : Addr) (mp : Addr) (tk : Addr) (us : Addr) (h0 : Heap) (n0 : Nat) (O0 : Old Z n0 h0) (S_COMPACT_STRINGS : Sta Z Z.heap "java/lang/String" "COMPACT_STRINGS" "Z" (.int cs)) (hcs : ¬ (cs = (0 : Int32))) (S_DEFAULTCAPACITY_EMPTY_ELEMENTDATA : Sta Z Z.heap "java/util/ArrayList" "DEFAULTCAPACITY_EMPTY_ELEMENTDATA" "[Ljava/lang/Object;" (.ref de)) (E_de : Exa Z h0 de "[Ljava/lang/Object;") (A_de : Arv Z h0 de kd (.object "java/lang/Object") (0 : Int32) [] .null) (S_EMPTY_LIST : Sta Z Z.heap "java/util/ImmutableCollections" "EMPTY_LIST" "Ljava/util/ImmutableCollections$ListN;" (.ref el)) (E_el : Exa Z h0 el "java/util/ImmutableCollections$ListN") (F_el_elements : Fld Z h0 el "java/util/ImmutableCollections$ListN" "elements" "[Ljava/lang/Object;" (.ref ea)) (A_ea : Arv Z h0 ea ke (.object "java/lang/Object") (0 : Int32) [] .null) (S_EMPTY : Sta Z Z.heap "java/util/ImmutableCollections" "EMPTY" "Ljava/lang/Object;" (.ref em)) (hM : Mir Z "[Ljava/lang/Object;" mo) (S_MISSED : Sta Z Z.heap "com/example/hybrev/hybrev/EventPage" "MISSED" "Lcom/example/hybrev/hybrev/EventPage;" (.ref mp)) (E_mp : Exa Z h0 mp "com/example/hybrev/hybrev/EventPage") (F_mp_next : Fld Z h0 mp "com/example/hybrev/hybrev/EventPage" "next" "Ljava/lang/String;" .null) (F_mp_events : Fld Z h0 mp "com/example/hybrev/hybrev/EventPage" "events" "Ljava/util/List;" (.ref el)) (S_TOKEN : Sta Z Z.heap "com/example/hybrev/hybrev/RevocationEvent$Kind" "TOKEN" "Lcom/example/hybrev/hybrev/RevocationEvent$Kind;" (.ref tk)) (S_USER : Sta Z Z.heap "com/example/hybrev/hybrev/RevocationEvent$Kind" "USER" "Lcom/example/hybrev/hybrev/RevocationEvent$Kind;" (.ref us)) :
    MetH l Z consts_1 x code maxLocals ret room_1 ws #[(.int p0), (.int p1), (.int p2), (.int p3)] h0 [] (Q0 Z p0 p1 p2 p3 cs de kd el ea ke mo em mp tk us h0 n0) := by
  refine metH_of (L0 := #[.val (.int p0), .val (.int p1), .val (.int p2), .val (.int p3), .unset, .unset, .unset, .unset, .unset, .unset, .unset, .unset, .unset]) (plainFor_of_name pn0) (fun m => by first | (simp [entryFrame, mkF, argsToLocals, Value.category, maxLocals]; done) | rfl) ?_
  intro p e s m below meth c T0 hx hby hml hown hnm hret hlk hZ B0 hS0 X0 e0
  have N0 := Fr.nil n0
  have KK0 : Keep h0 h0 [] := Keep.refl _ _
  refine o_iloadN X0 hx (hb hby at_0) rfl rfl ?_
  refine o_iconst X0 hx (hb hby at_1) (v := (1 : Int32)) rfl rfl ?_
  refine o_iand X0 hx (hb hby at_2) rfl ?_
  by_cases hc3 : (p0 &&& (1 : Int32)) = (0 : Int32)
  ·
    refine o_ifYes X0 hx (hb hby at_3) ((if0 _ _).trans (teq hc3).1) (by decide) (pc' := 10) (by decide) ?_
    refine o_iconst X0 hx (hb hby at_10) (v := (0 : Int32)) rfl rfl ?_
    refine o_istore X0 hx (hb hby at_11) (L' := #[.val (.int p0), .val (.int p1), .val (.int p2), .val (.int p3), .val (.int (0 : Int32)), .unset, .unset, .unset, .unset, .unset, .unset, .unset, .unset]) rfl rfl ?_
    refine o_iload X0 hx (hb hby at_13) rfl rfl ?_
    refine o_ifYes X0 hx (hb hby at_15) ((if0 _ _).trans (teq (by decide)).1) (by decide) (pc' := 26) (by decide) ?_
    refine o_new X0 hx hZ hown (wd0 hw) (wd1 hw) (wd2 hw) e0 (hb hby at_26) (by decide) (by decide) (cells' := 1) (slots' := 3) rfl rfl rfl fun T26 h26 b26 g26 X26 e26 E26 A26 D26 => ?_
    have s_b26_h0 : h0.size ≤ b26 := Nat.le_trans KK0.1 (Nat.le_of_eq g26.symm)
    have n_b26 : n0 ≤ b26 := Nat.le_trans (O0.1 ▸ O0.2.1) (Nat.le_of_eq g26.symm)
    have KE26_h0 : Keep h0 h26 [] := KK0.ext E26
    have OE26 : Old Z n0 h26 := O0.ext E26
    have BE26 : HB Z consts_1 s s h0 h26 := B0.ext E26
    have sf_b26 : Safe Z consts_1 s.vm h26 b26 := own_sfE B0.ch E26 (Safe.new (Z := Z) (EL := consts_1) (vm := s.vm) (Nat.le_of_eq g26.symm))
    have Fb26_modCount : Fld Z h26 b26 "java/util/AbstractList" "modCount" "I" (.int (0 : Int32)) := D26 (Or.inl (wd22 hw)) (ty := .int) (by decide)
    have Fb26_elementData : Fld Z h26 b26 "java/util/ArrayList" "elementData" "[Ljava/lang/Object;" .null := D26 (Or.inl (wd25 hw)) (ty := (.array (.object "java/lang/Object"))) (by decide)
    have Fb26_size : Fld Z h26 b26 "java/util/ArrayList" "size" "I" (.int (0 : Int32)) := D26 (Or.inl (wd86 hw)) (ty := .int) (by decide)
    refine o_dup X26 hx (hb hby at_29) rfl rfl ?_
    have fE30 : Exa Z h26 de "[Ljava/lang/Object;" := (E_de.ext E26)
    have fA30 : Arv Z h26 de kd (.object "java/lang/Object") (0 : Int32) [] .null := (A_de.ext E26)
    refine o_special X26 hx hZ rfl rfl hown (wd3 hw) (wd4 hw) (by decide) (a := b26) (rm1 l Z a0 hw b26 de kd h26 n0 OE26 A26 Fb26_elementData Fb26_size Fb26_modCount S_DEFAULTCAPACITY_EMPTY_ELEMENTDATA fE30 fA30 n_b26) (wd5 hw) (wd2 hw) e26 (by rw [hml]; rfl) (argsL := []) (rest := [(.ref b26)]) (W := 1) pd2 rfl rfl rfl rfl (hb hby at_30) (by decide) (by decide) (by decide) (by decide) (cells' := 1) (slots' := 3) rfl rfl rfl fun v30 T30 h30 Lc30 X30 e30 hq30 => ?_
    obtain ⟨rfl, N30q, K30, qE_30, qF_30, qF_30_2, qF_30_3⟩ := hq30
    have N30 := Fr.app N0 N30q
    have KK30_h0 : Keep h0 h30 [] := KE26_h0.trans K30 (allS (Or.inr s_b26_h0) all0)
    have OK30 : Old Z n0 h30 := OE26.keep K30 (allS n_b26 all0)
    have BK30 : HB Z consts_1 s s h0 h30 := BE26.keep K30 (slS sf_b26 sl0)
    have sf_b26_2 : Safe Z consts_1 s.vm h30 b26 := own_sfK BE26.ch K30 (slS sf_b26 sl0) sf_b26
    show Goes p.tables e below (EndsH Z consts_1 s h0 (Q0 Z p0 p1 p2 p3 cs de kd el ea ke mo em mp tk us h0 n0) room_1.cells room_1.slots) (T30.setTop (mkF m 33 #[.val (.int p0), .val (.int p1), .val (.int p2), .val (.int p3), .val (.int (0 : Int32)), .unset, .unset, .unset, .unset, .unset, .unset, .unset, .unset] [(.ref b26)]))
    refine o_astore X30 hx (hb hby at_33) rfl (L' := #[.val (.int p0), .val (.int p1), .val (.int p2), .val (.int p3), .val (.int (0 : Int32)), .unset, .val (.ref b26), .unset, .unset, .unset, .unset, .unset, .unset]) rfl rfl ?_
    refine o_iloadN X30 hx (hb hby at_35) rfl rfl ?_
    refine o_iconst X30 hx (hb hby at_36) (v := (3 : Int32)) rfl rfl ?_
    refine o_iand X30 hx (hb hby at_37) rfl ?_
    refine o_iconst X30 hx (hb hby at_38) (v := (3 : Int32)) rfl rfl ?_
    refine o_irem X30 hx (hb hby at_39) (by decide) rfl ?_
    refine o_istore X30 hx (hb hby at_40) (L' := #[.val (.int p0), .val (.int p1), .val (.int p2), .val (.int p3), .val (.int (0 : Int32)), .unset, .val (.ref b26), .val (.int ((p1 &&& (3 : Int32)) % (3 : Int32))), .unset, .unset, .unset, .unset, .unset]) rfl rfl ?_
    refine o_iloadN X30 hx (hb hby at_42) rfl rfl ?_
    refine o_iconst X30 hx (hb hby at_43) (v := (1 : Int32)) rfl rfl ?_
    refine o_iand X30 hx (hb hby at_44) rfl ?_
    by_cases hc45 : (p3 &&& (1 : Int32)) = (0 : Int32)
    ·
      refine o_ifYes X30 hx (hb hby at_45) ((if0 _ _).trans (teq hc45).1) (by decide) (pc' := 52) (by decide) ?_
      refine o_iconst X30 hx (hb hby at_52) (v := (0 : Int32)) rfl rfl ?_
      refine o_istore X30 hx (hb hby at_53) (L' := #[.val (.int p0), .val (.int p1), .val (.int p2), .val (.int p3), .val (.int (0 : Int32)), .unset, .val (.ref b26), .val (.int ((p1 &&& (3 : Int32)) % (3 : Int32))), .val (.int (0 : Int32)), .unset, .unset, .unset, .unset]) rfl rfl ?_
      refine o_iload X30 hx (hb hby at_55) rfl rfl ?_
      refine o_ifYes X30 hx (hb hby at_57) ((if0 _ _).trans (teq (by decide)).1) (by decide) (pc' := 66) (by decide) ?_
      refine o_getS X30 hx hZ hown (host := "") (Or.inl (wd29 hw)) Via.refl e30 (Sta.ext OK30.2 S_USER) (hb hby at_66) rfl fun T66 X66 e66 => ?_
      refine o_astore X66 hx (hb hby at_69) rfl (L' := #[.val (.int p0), .val (.int p1), .val (.int p2), .val (.int p3), .val (.int (0 : Int32)), .unset, .val (.ref b26), .val (.int ((p1 &&& (3 : Int32)) % (3 : Int32))), .val (.int (0 : Int32)), .val (.ref us), .unset, .unset, .unset]) rfl rfl ?_
      refine o_iload X66 hx (hb hby at_71) rfl rfl ?_
      refine o_ifYes X66 hx (hb hby at_73) ((if0 _ _).trans (teq (by decide)).1) (by decide) (pc' := 82) (by decide) ?_
      refine o_getS X66 hx hZ hown (host := "") (Or.inl (wd26 hw)) Via.refl e66 (Sta.ext OK30.2 S_TOKEN) (hb hby at_82) rfl fun T82 X82 e82 => ?_
      refine o_astore X82 hx (hb hby at_85) rfl (L' := #[.val (.int p0), .val (.int p1), .val (.int p2), .val (.int p3), .val (.int (0 : Int32)), .unset, .val (.ref b26), .val (.int ((p1 &&& (3 : Int32)) % (3 : Int32))), .val (.int (0 : Int32)), .val (.ref us), .val (.ref tk), .unset, .unset]) rfl rfl ?_
      refine o_iloadN X82 hx (hb hby at_87) rfl rfl ?_
      refine o_iloadN X82 hx (hb hby at_88) rfl rfl ?_
      refine o_bipush X82 hx (hb hby at_89) (v := (24 : Int32)) rfl rfl ?_
      refine o_iushr X82 hx (hb hby at_91) rfl ?_
      refine o_staticF X82 hx hZ hown (wd31 hw) (wd32 hw) (by decide) (rm5 l Z a0 hw p3 (((p3.toUInt32 >>> ((24 : Int32) &&& 31).toUInt32).toInt32)) cs h30 n0 OK30 S_COMPACT_STRINGS hcs) (wd34 hw) (wd33 hw) e82 BK30 (own_EW hw) sl0 sl0 (by rw [hml]; rfl) (argsL := [(.int p3), (.int ((p3.toUInt32 >>> ((24 : Int32) &&& 31).toUInt32).toInt32))]) (rest := []) (W := 0) pd17 rfl rfl rfl rfl (hb hby at_92) (by decide) (by decide) (by decide) (by decide) (cells' := 7) (slots' := 15) rfl rfl rfl fun v92 s92 T92 h92 Lc92 X92 e92 B92 hZ92 hown92 hS92 hq92 => ?_
      obtain ⟨b_92, rfl, N92q, K92, hb_92, qE_92⟩ := hq92
      have N92 := Fr.app N30 N92q
      have s_b_92_h0 : h0.size ≤ b_92 := Nat.le_trans KK30_h0.1 hb_92
      have n_b_92 : n0 ≤ b_92 := Nat.le_trans (OK30.1 ▸ OK30.2.1) hb_92
      have KK92_h0 : Keep h0 h92 [] := KK30_h0.trans K92 all0
      have OK92 : Old Z n0 h92 := OK30.keep K92 all0
      have sf_b26_3 := hS92 b26 qE_30.lt sf_b26_2
      show Goes p.tables e below (EndsH Z consts_1 s h0 (Q0 Z p0 p1 p2 p3 cs de kd el ea ke mo em mp tk us h0 n0) room_1.cells room_1.slots) (T92.setTop (mkF m 95 #[.val (.int p0), .val (.int p1), .val (.int p2), .val (.int p3), .val (.int (0 : Int32)), .unset, .val (.ref b26), .val (.int ((p1 &&& (3 : Int32)) % (3 : Int32))), .val (.int (0 : Int32)), .val (.ref us), .val (.ref tk), .unset, .unset] [(.ref b_92)]))
      refine o_astore X92 hx (hb hby at_95) rfl (L' := #[.val (.int p0), .val (.int p1), .val (.int p2), .val (.int p3), .val (.int (0 : Int32)), .unset, .val (.ref b26), .val (.int ((p1 &&& (3 : Int32)) % (3 : Int32))), .val (.int (0 : Int32)), .val (.ref us), .val (.ref tk), .val (.ref b_92), .unset]) rfl rfl ?_
      refine o_iloadN X92 hx (hb hby at_97) rfl rfl ?_
      refine o_bipush X92 hx (hb hby at_98) (v := (8 : Int32)) rfl rfl ?_
      refine o_iushr X92 hx (hb hby at_100) rfl ?_
      refine o_iloadN X92 hx (hb hby at_101) rfl rfl ?_
      refine o_bipush X92 hx (hb hby at_102) (v := (26 : Int32)) rfl rfl ?_
      refine o_iushr X92 hx (hb hby at_104) rfl ?_
      have fE105 : Exa Z h92 b26 "java/util/ArrayList" := (qE_30.keep K92)
      refine o_staticF X92 hx hZ92 hown92 (wd31 hw) (wd32 hw) (by decide) (rm5 l Z a0 hw (((p2.toUInt32 >>> ((8 : Int32) &&& 31).toUInt32).toInt32)) (((p3.toUInt32 >>> ((26 : Int32) &&& 31).toUInt32).toInt32)) cs h92 n0 OK92 S_COMPACT_STRINGS hcs) (wd34 hw) (wd33 hw) e92 B92 (own_EW hw) sl0 sl0 (by rw [hml]; rfl) (argsL := [(.int ((p2.toUInt32 >>> ((8 : Int32) &&& 31).toUInt32).toInt32)), (.int ((p3.toUInt32 >>> ((26 : Int32) &&& 31).toUInt32).toInt32))]) (rest := []) (W := 0) pd17 rfl rfl rfl rfl (hb hby at_105) (by decide) (by decide) (by decide) (by decide) (cells' := 13) (slots' := 27) rfl rfl rfl fun v105 s105 T105 h105 Lc105 X105 e105 B105 hZ105 hown105 hS105 hq105 => ?_
      obtain ⟨b_105, rfl, N105q, K105, hb_105, qE_105⟩ := hq105
      have N105 := Fr.app N92 N105q
      have s_b_105_h0 : h0.size ≤ b_105 := Nat.le_trans KK92_h0.1 hb_105
      have n_b_105 : n0 ≤ b_105 := Nat.le_trans (OK92.1 ▸ OK92.2.1) hb_105
      have KK105_h0 : Keep h0 h105 [] := KK92_h0.trans K105 all0
      have OK105 : Old Z n0 h105 := OK92.keep K105 all0
      have sf_b26_4 := hS105 b26 fE105.lt sf_b26_3
      show Goes p.tables e below (EndsH Z consts_1 s h0 (Q0 Z p0 p1 p2 p3 cs de kd el ea ke mo em mp tk us h0 n0) room_1.cells room_1.slots) (T105.setTop (mkF m 108 #[.val (.int p0), .val (.int p1), .val (.int p2), .val (.int p3), .val (.int (0 : Int32)), .unset, .val (.ref b26), .val (.int ((p1 &&& (3 : Int32)) % (3 : Int32))), .val (.int (0 : Int32)), .val (.ref us), .val (.ref tk), .val (.ref b_92), .unset] [(.ref b_105)]))
      refine o_astore X105 hx (hb hby at_108) rfl (L' := #[.val (.int p0), .val (.int p1), .val (.int p2), .val (.int p3), .val (.int (0 : Int32)), .unset, .val (.ref b26), .val (.int ((p1 &&& (3 : Int32)) % (3 : Int32))), .val (.int (0 : Int32)), .val (.ref us), .val (.ref tk), .val (.ref b_92), .val (.ref b_105)]) rfl rfl ?_
      rcases own_cnt3 p1 with hn3 | hn3 | hn3
      ·
        refine o_locs (L' := #[.val (.int p0), .val (.int p1), .val (.int p2), .val (.int p3), .val (.int (0 : Int32)), .unset, .val (.ref b26), .val (.int (0 : Int32)), .val (.int (0 : Int32)), .val (.ref us), .val (.ref tk), .val (.ref b_92), .val (.ref b_105)]) (by rw [hn3]) ?_
        refine o_iload X105 hx (hb hby at_110) rfl rfl ?_
        refine o_iconst X105 hx (hb hby at_112) (v := (1 : Int32)) rfl rfl ?_
        refine o_icmpYes X105 hx (hb hby at_113) (tlt (by decide)).1 (by decide) (pc' := 133) (by decide) ?_
        refine o_iload X105 hx (hb hby at_133) rfl rfl ?_
        refine o_iconst X105 hx (hb hby at_135) (v := (2 : Int32)) rfl rfl ?_
        refine o_icmpYes X105 hx (hb hby at_136) (tlt (by decide)).1 (by decide) (pc' := 156) (by decide) ?_
        refine o_new X105 hx hZ105 hown105 (wd55 hw) (wd56 hw) (wd57 hw) e105 (hb hby at_156) (by decide) (by decide) (cells' := 14) (slots' := 29) rfl rfl rfl fun T156 h156 b156 g156 X156 e156 E156 A156 D156 => ?_
        have s_b156_h0 : h0.size ≤ b156 := Nat.le_trans KK105_h0.1 (Nat.le_of_eq g156.symm)
        have n_b156 : n0 ≤ b156 := Nat.le_trans (OK105.1 ▸ OK105.2.1) (Nat.le_of_eq g156.symm)
        have KE156_h0 : Keep h0 h156 [] := KK105_h0.ext E156
        have OE156 : Old Z n0 h156 := OK105.ext E156
        have BE156 : HB Z consts_1 s s105 h0 h156 := B105.ext E156
        have sf_b26_5 : Safe Z consts_1 s105.vm h156 b26 := own_sfE B105.ch E156 sf_b26_4
        have sf_b156 : Safe Z consts_1 s105.vm h156 b156 := own_sfE B105.ch E156 (Safe.new (Z := Z) (EL := consts_1) (vm := s105.vm) (Nat.le_of_eq g156.symm))
        have Fb156_events : Fld Z h156 b156 "com/example/hybrev/hybrev/EventPage" "events" "Ljava/util/List;" .null := D156 (Or.inr (wd92 hw)) (ty := (.object "java/util/List")) (by decide)
        have Fb156_next : Fld Z h156 b156 "com/example/hybrev/hybrev/EventPage" "next" "Ljava/lang/String;" .null := D156 (Or.inr (wd100 hw)) (ty := (.object "java/lang/String")) (by decide)
        refine o_dup X156 hx (hb hby at_159) rfl rfl ?_
        refine o_aload X156 hx (hb hby at_160) rfl rfl rfl ?_
        refine o_iloadN X156 hx (hb hby at_162) rfl rfl ?_
        refine o_iloadN X156 hx (hb hby at_163) rfl rfl ?_
        refine o_iconst X156 hx (hb hby at_164) (v := (2 : Int32)) rfl rfl ?_
        refine o_iushr X156 hx (hb hby at_165) rfl ?_
        have fE166 : Exa Z h156 b26 "java/util/ArrayList" := ((fE105.keep K105).ext E156)
        refine o_staticF X156 hx hZ105 hown105 (wd31 hw) (wd32 hw) (by decide) (rm5 l Z a0 hw p2 (((p1.toUInt32 >>> ((2 : Int32) &&& 31).toUInt32).toInt32)) cs h156 n0 OE156 S_COMPACT_STRINGS hcs) (wd34 hw) (wd33 hw) e156 BE156 (own_EW hw) sl0 sl0 (by rw [hml]; rfl) (argsL := [(.int p2), (.int ((p1.toUInt32 >>> ((2 : Int32) &&& 31).toUInt32).toInt32))]) (rest := [(.ref b26), (.ref b156), (.ref b156)]) (W := 3) pd17 rfl rfl rfl rfl (hb hby at_166) (by decide) (by decide) (by decide) (by decide) (cells' := 20) (slots' := 41) rfl rfl rfl fun v166 s166 T166 h166 Lc166 X166 e166 B166 hZ166 hown166 hS166 hq166 => ?_
        obtain ⟨b_166, rfl, N166q, K166, hb_166, qE_166⟩ := hq166
        have N166 := Fr.app N105 N166q
        have s_b_166_h0 : h0.size ≤ b_166 := Nat.le_trans KE156_h0.1 hb_166
        have n_b_166 : n0 ≤ b_166 := Nat.le_trans (OE156.1 ▸ OE156.2.1) hb_166
        have KK166_h0 : Keep h0 h166 [] := KE156_h0.trans K166 all0
        have OK166 : Old Z n0 h166 := OE156.keep K166 all0
        have sf_b26_6 := hS166 b26 fE166.lt sf_b26_5
        have sf_b156_2 := hS166 b156 A156.lt sf_b156
        show Goes p.tables e below (EndsH Z consts_1 s h0 (Q0 Z p0 p1 p2 p3 cs de kd el ea ke mo em mp tk us h0 n0) room_1.cells room_1.slots) (T166.setTop (mkF m 169 #[.val (.int p0), .val (.int p1), .val (.int p2), .val (.int p3), .val (.int (0 : Int32)), .unset, .val (.ref b26), .val (.int (0 : Int32)), .val (.int (0 : Int32)), .val (.ref us), .val (.ref tk), .val (.ref b_92), .val (.ref b_105)] [(.ref b_166), (.ref b26), (.ref b156), (.ref b156)]))
        have fE169 : Exa Z h166 b156 "com/example/hybrev/hybrev/EventPage" := (A156.keep K166)
        have fF169 : Fld Z h166 b156 "com/example/hybrev/hybrev/EventPage" "events" "Ljava/util/List;" .null := (Fb156_events.keep K166 nin0)
        have fF169_2 : Fld Z h166 b156 "com/example/hybrev/hybrev/EventPage" "next" "Ljava/lang/String;" .null := (Fb156_next.keep K166 nin0)
        have fE169_2 : Exa Z h166 b26 "java/util/ArrayList" := (fE166.keep K166)
        have fF169_3 : Fld Z h166 b26 "java/util/ArrayList" "size" "I" (.int (0 : Int32)) := ((((qF_30_2.keep K92 nin0).keep K105 nin0).ext E156).keep K166 nin0)
        refine o_specialF X166 hx hZ166 rfl rfl hown166 (wd58 hw) (wd59 hw) (by decide) (a := b156) (rmepi0 l Z a0 hw b156 b_166 b26 el h166 n0 OK166 fE169 fF169 fF169_2 qE_166 fE169_2 fF169_3 S_EMPTY_LIST n_b156 (Ne.symm (Nat.ne_of_lt (Nat.lt_of_lt_of_le ((qF_30_3.keep K92 nin0).keep K105 nin0).lt (Nat.le_of_eq g156.symm))))) (wd60 hw) (wd57 hw) e166 B166 (own_EW hw) (slS fE169.lt sl0) (slS sf_b156_2 sl0) (by rw [hml]; rfl) (argsL := [(.ref b26), (.ref b_166)]) (rest := [(.ref b156)]) (W := 1) pd18 rfl rfl rfl rfl (hb hby at_169) (by decide) (by decide) (by decide) (by decide) (cells' := 22) (slots' := 61) rfl rfl rfl fun v169 s169 T169 h169 Lc169 X169 e169 B169 hZ169 hown169 hS169 hq169 => ?_
        obtain ⟨rfl, N169q, K169, qE_169, qF_169⟩ := hq169
        have N169 := Fr.app N166 N169q
        have KK169_h0 : Keep h0 h169 [] := KK166_h0.trans K169 (allS (Or.inr s_b156_h0) all0)
        have OK169 : Old Z n0 h169 := OK166.keep K169 (allS n_b156 all0)
        have sf_b26_7 := hS169 b26 fE169_2.lt sf_b26_6
        have sf_b156_3 := hS169 b156 fE169.lt sf_b156_2
        show Goes p.tables e below (EndsH Z consts_1 s h0 (Q0 Z p0 p1 p2 p3 cs de kd el ea ke mo em mp tk us h0 n0) room_1.cells room_1.slots) (T169.setTop (mkF m 172 #[.val (.int p0), .val (.int p1), .val (.int p2), .val (.int p3), .val (.int (0 : Int32)), .unset, .val (.ref b26), .val (.int (0 : Int32)), .val (.int (0 : Int32)), .val (.ref us), .val (.ref tk), .val (.ref b_92), .val (.ref b_105)] [(.ref b156)]))
        refine o_astore X169 hx (hb hby at_172) rfl (L' := #[.val (.int p0), .val (.int p1), .val (.int p2), .val (.int p3), .val (.int (0 : Int32)), .val (.ref b156), .val (.ref b26), .val (.int (0 : Int32)), .val (.int (0 : Int32)), .val (.ref us), .val (.ref tk), .val (.ref b_92), .val (.ref b_105)]) rfl rfl ?_
        refine o_aload X169 hx (hb hby at_174) rfl rfl rfl ?_
        refine o_virtual X169 hx hZ169 (C := "com/example/hybrev/hybrev/EventPage") hown169 (wd101 hw) (wd102 hw) (notFace_of_selects (args := #[]) (mvT hZ169 (wd104 hw))) (wd104 hw) (wd103 hw) (by decide) qE_169 (rmimR l Z a0 hw b156 b_166 h169 n0 OK169 qF_169) (wd105 hw) (wd57 hw) e169 (by rw [hml]; rfl) (argsL := []) (rest := []) (W := 0) pd12 rfl rfl rfl rfl (hb hby at_176) (by decide) (by decide) (by decide) (by decide) (cells' := 22) (slots' := 61) rfl rfl rfl fun v176 T176 h176 Lc176 X176 e176 hq176 => ?_
        obtain ⟨rfl, N176q, K176⟩ := hq176
        have N176 := Fr.app N169 N176q
        have e176_2 : T176.heap = h169 := e176.trans K176
        show Goes p.tables e below (EndsH Z consts_1 s h0 (Q0 Z p0 p1 p2 p3 cs de kd el ea ke mo em mp tk us h0 n0) room_1.cells room_1.slots) (T176.setTop (mkF m 179 #[.val (.int p0), .val (.int p1), .val (.int p2), .val (.int p3), .val (.int (0 : Int32)), .val (.ref b156), .val (.ref b26), .val (.int (0 : Int32)), .val (.int (0 : Int32)), .val (.ref us), .val (.ref tk), .val (.ref b_92), .val (.ref b_105)] [(.int (0 : Int32))]))
        refine o_istore X176 hx (hb hby at_179) (L' := #[.val (.int p0), .val (.int p1), .val (.int p2), .val (.int p3), .val (.int (0 : Int32)), .val (.ref b156), .val (.int (0 : Int32)), .val (.int (0 : Int32)), .val (.int (0 : Int32)), .val (.ref us), .val (.ref tk), .val (.ref b_92), .val (.ref b_105)]) rfl rfl ?_
        refine o_iload X176 hx (hb hby at_181) rfl rfl ?_
        refine o_iload X176 hx (hb hby at_183) rfl rfl ?_
        refine o_icmpYes X176 hx (hb hby at_185) (teq (by decide)).1 (by decide) (pc' := 190) (by decide) ?_
        refine o_iload X176 hx (hb hby at_190) rfl rfl ?_
        refine o_aload X176 hx (hb hby at_192) rfl rfl rfl ?_
        refine o_virtual X176 hx hZ169 (C := "com/example/hybrev/hybrev/EventPage") hown169 (wd106 hw) (wd107 hw) (notFace_of_selects (args := #[]) (mvT hZ169 (wd109 hw))) (wd109 hw) (wd108 hw) (by decide) qE_169 (rmgnR l Z a0 hw b156 b_166 h169 n0 OK169 qF_169) (wd110 hw) (wd57 hw) e176_2 (by rw [hml]; rfl) (argsL := []) (rest := [(.int (0 : Int32))]) (W := 1) pd19 rfl rfl rfl rfl (hb hby at_194) (by decide) (by decide) (by decide) (by decide) (cells' := 22) (slots' := 61) rfl rfl rfl fun v194 T194 h194 Lc194 X194 e194 hq194 => ?_
        obtain ⟨rfl, N194q, K194⟩ := hq194
        have N194 := Fr.app N176 N194q
        have e194_2 : T194.heap = h169 := e194.trans K194
        show Goes p.tables e below (EndsH Z consts_1 s h0 (Q0 Z p0 p1 p2 p3 cs de kd el ea ke mo em mp tk us h0 n0) room_1.cells room_1.slots) (T194.setTop (mkF m 197 #[.val (.int p0), .val (.int p1), .val (.int p2), .val (.int p3), .val (.int (0 : Int32)), .val (.ref b156), .val (.int (0 : Int32)), .val (.int (0 : Int32)), .val (.int (0 : Int32)), .val (.ref us), .val (.ref tk), .val (.ref b_92), .val (.ref b_105)] [(.ref b_166), (.int (0 : Int32))]))
        refine o_ifnonnullYes X194 hx (hb hby at_197) (by decide) (pc' := 204) (by decide) ?_
        refine o_iconst X194 hx (hb hby at_204) (v := (0 : Int32)) rfl rfl ?_
        refine o_icmpYes X194 hx (hb hby at_205) (teq (by decide)).1 (by decide) (pc' := 210) (by decide) ?_
        refine o_iload X194 hx (hb hby at_210) rfl rfl ?_
        refine o_ifYes X194 hx (hb hby at_212) ((if0 _ _).trans (teq (by decide)).1) (by decide) (pc' := 230) (by decide) ?_
        refine o_iconst X194 hx (hb hby at_230) (v := (1 : Int32)) rfl rfl ?_
        exact o_retH X194 hx hlk (t := .boolean) hret rfl (Or.inl ⟨rfl, by decide, _, rfl⟩) (hb hby at_231) (by decide) (by decide) e194_2 hZ169 (own_EW hw) B169 ⟨rfl, N194, KK169_h0⟩
      ·
        refine o_locs (L' := #[.val (.int p0), .val (.int p1), .val (.int p2), .val (.int p3), .val (.int (0 : Int32)), .unset, .val (.ref b26), .val (.int (1 : Int32)), .val (.int (0 : Int32)), .val (.ref us), .val (.ref tk), .val (.ref b_92), .val (.ref b_105)]) (by rw [hn3]) ?_
        refine o_iload X105 hx (hb hby at_110) rfl rfl ?_
        refine o_iconst X105 hx (hb hby at_112) (v := (1 : Int32)) rfl rfl ?_
        refine o_icmpNo X105 hx (hb hby at_113) (flt (by decide)).1 rfl ?_
        refine o_aload X105 hx (hb hby at_116) rfl rfl rfl ?_
        refine o_new X105 hx hZ105 hown105 (wd144 hw) (wd145 hw) (wd146 hw) e105 (hb hby at_118) (by decide) (by decide) (cells' := 14) (slots' := 29) rfl rfl rfl fun T118 h118 b118 g118 X118 e118 E118 A118 D118 => ?_
        have s_b118_h0 : h0.size ≤ b118 := Nat.le_trans KK105_h0.1 (Nat.le_of_eq g118.symm)
        have n_b118 : n0 ≤ b118 := Nat.le_trans (OK105.1 ▸ OK105.2.1) (Nat.le_of_eq g118.symm)
        have KE118_h0 : Keep h0 h118 [] := KK105_h0.ext E118
        have OE118 : Old Z n0 h118 := OK105.ext E118
        have BE118 : HB Z consts_1 s s105 h0 h118 := B105.ext E118
        have sf_b26_8 : Safe Z consts_1 s105.vm h118 b26 := own_sfE B105.ch E118 sf_b26_4
        have sf_b118 : Safe Z consts_1 s105.vm h118 b118 := own_sfE B105.ch E118 (Safe.new (Z := Z) (EL := consts_1) (vm := s105.vm) (Nat.le_of_eq g118.symm))
        have Fb118_kind : Fld Z h118 b118 "com/example/hybrev/hybrev/RevocationEvent" "kind" "Lcom/example/hybrev/hybrev/RevocationEvent$Kind;" .null := D118 (Or.inr (wd152 hw)) (ty := (.object "com/example/hybrev/hybrev/RevocationEvent$Kind")) (by decide)
        have Fb118_id : Fld Z h118 b118 "com/example/hybrev/hybrev/RevocationEvent" "id" "Ljava/lang/String;" .null := D118 (Or.inr (wd154 hw)) (ty := (.object "java/lang/String")) (by decide)
        refine o_dup X118 hx (hb hby at_121) rfl rfl ?_
        refine o_aload X118 hx (hb hby at_122) rfl rfl rfl ?_
        refine o_aload X118 hx (hb hby at_124) rfl rfl rfl ?_
        refine o_special X118 hx hZ105 rfl rfl hown105 (wd147 hw) (wd148 hw) (by decide) (a := b118) (rm22 l Z a0 hw b118 us b_92 h118 n0 OE118 A118 Fb118_kind Fb118_id n_b118) (wd149 hw) (wd146 hw) e118 (by rw [hml]; rfl) (argsL := [(.ref us), (.ref b_92)]) (rest := [(.ref b118), (.ref b26)]) (W := 2) pd20 rfl rfl rfl rfl (hb hby at_126) (by decide) (by decide) (by decide) (by decide) (cells' := 14) (slots' := 29) rfl rfl rfl fun v126 T126 h126 Lc126 X126 e126 hq126 => ?_
        obtain ⟨rfl, N126q, K126, qE_126⟩ := hq126
        have N126 := Fr.app N105 N126q
        have KK126_h0 : Keep h0 h126 [] := KE118_h0.trans K126 (allS (Or.inr s_b118_h0) all0)
        have OK126 : Old Z n0 h126 := OE118.keep K126 (allS n_b118 all0)
        have BK126 : HB Z consts_1 s s105 h0 h126 := BE118.keep K126 (slS sf_b118 sl0)
        have sf_b26_9 : Safe Z consts_1 s105.vm h126 b26 := own_sfK BE118.ch K126 (slS sf_b118 sl0) sf_b26_8
        have sf_b118_2 : Safe Z consts_1 s105.vm h126 b118 := own_sfK BE118.ch K126 (slS sf_b118 sl0) sf_b118
        show Goes p.tables e below (EndsH Z consts_1 s h0 (Q0 Z p0 p1 p2 p3 cs de kd el ea ke mo em mp tk us h0 n0) room_1.cells room_1.slots) (T126.setTop (mkF m 129 #[.val (.int p0), .val (.int p1), .val (.int p2), .val (.int p3), .val (.int (0 : Int32)), .unset, .val (.ref b26), .val (.int (1 : Int32)), .val (.int (0 : Int32)), .val (.ref us), .val (.ref tk), .val (.ref b_92), .val (.ref b_105)] [(.ref b118), (.ref b26)]))
        have fE129 : Exa Z h126 b26 "java/util/ArrayList" := (((fE105.keep K105).ext E118).keep K126)
        have fF129 : Fld Z h126 b26 "java/util/ArrayList" "elementData" "[Ljava/lang/Object;" (.ref de) := ((((qF_30.keep K92 nin0).keep K105 nin0).ext E118).keep K126 (ninS (Nat.ne_of_lt (Nat.lt_of_lt_of_le ((qF_30_3.keep K92 nin0).keep K105 nin0).lt (Nat.le_of_eq g118.symm))) nin0))
        have fF129_2 : Fld Z h126 b26 "java/util/ArrayList" "size" "I" (.int (0 : Int32)) := ((((qF_30_2.keep K92 nin0).keep K105 nin0).ext E118).keep K126 (ninS (Nat.ne_of_lt (Nat.lt_of_lt_of_le ((qF_30_3.keep K92 nin0).keep K105 nin0).lt (Nat.le_of_eq g118.symm))) nin0))
        have fF129_3 : Fld Z h126 b26 "java/util/AbstractList" "modCount" "I" (.int (0 : Int32)) := ((((qF_30_3.keep K92 nin0).keep K105 nin0).ext E118).keep K126 (ninS (Nat.ne_of_lt (Nat.lt_of_lt_of_le ((qF_30_3.keep K92 nin0).keep K105 nin0).lt (Nat.le_of_eq g118.symm))) nin0))
        have fE129_2 : Exa Z h126 de "[Ljava/lang/Object;" := (((((fE30.keep K30).keep K92).keep K105).ext E118).keep K126)
        have fA129 : Arv Z h126 de kd (.object "java/lang/Object") (0 : Int32) [] .null := (((((fA30.keep K30 (ninS (Nat.ne_of_lt (Nat.lt_of_lt_of_le E_de.lt (Nat.le_of_eq g26.symm))) nin0)).keep K92 nin0).keep K105 nin0).ext E118).keep K126 (ninS (Nat.ne_of_lt (Nat.lt_of_lt_of_le (((fA30.keep K30 (ninS (Nat.ne_of_lt (Nat.lt_of_lt_of_le E_de.lt (Nat.le_of_eq g26.symm))) nin0)).keep K92 nin0).keep K105 nin0).lt (Nat.le_of_eq g118.symm))) nin0))
        refine o_virtual X126 hx hZ105 (C := "java/util/ArrayList") hown105 (wd155 hw) (wd156 hw) (notFace_of_selects (args := #[]) (mvT hZ105 (wd158 hw))) (wd158 hw) (wd157 hw) (by decide) fE129 (rmad0 l Z a0 hw b26 ((0 : Int32)) de kd b118 h126 n0 OK126 fE129 fF129 fF129_2 fF129_3 S_DEFAULTCAPACITY_EMPTY_ELEMENTDATA fE129_2 fA129 n_b26 qE_126) (wd159 hw) (wd2 hw) e126 (by rw [hml]; rfl) (argsL := [(.ref b118)]) (rest := []) (W := 0) pd21 rfl rfl rfl rfl (hb hby at_129) (by decide) (by decide) (by decide) (by decide) (cells' := 15) (slots' := 39) rfl rfl rfl fun v129 T129 h129 Lc129 X129 e129 hq129 => ?_
        obtain ⟨b_129, k_129, rfl, N129q, K129, hb_129, qE_129, qE_129_2, qF_129, qF_129_2, qF_129_3, qA_129, hO_129⟩ := hq129
        have N129 := Fr.app N126 N129q
        have s_b_129_h0 : h0.size ≤ b_129 := Nat.le_trans KK126_h0.1 hb_129
        have n_b_129 : n0 ≤ b_129 := Nat.le_trans (OK126.1 ▸ OK126.2.1) hb_129
        have KK129_h0 : Keep h0 h129 [] := KK126_h0.trans K129 (allS (Or.inr s_b26_h0) all0)
        have OK129 : Old Z n0 h129 := OK126.keep K129 (allS n_b26 all0)
        have BK129 : HB Z consts_1 s s105 h0 h129 := BK126.keep K129 (slS sf_b26_9 sl0)
        have sf_b26_10 : Safe Z consts_1 s105.vm h129 b26 := own_sfK BK126.ch K129 (slS sf_b26_9 sl0) sf_b26_9
        have sf_b118_3 : Safe Z consts_1 s105.vm h129 b118 := own_sfK BK126.ch K129 (slS sf_b26_9 sl0) sf_b118_2
        have sf_b_129 : Safe Z consts_1 s105.vm h129 b_129 := own_sfK BK126.ch K129 (slS sf_b26_9 sl0) (Safe.new (Z := Z) (EL := consts_1) (vm := s105.vm) hb_129)
        show Goes p.tables e below (EndsH Z consts_1 s h0 (Q0 Z p0 p1 p2 p3 cs de kd el ea ke mo em mp tk us h0 n0) room_1.cells room_1.slots) (T129.setTop (mkF m 132 #[.val (.int p0), .val (.int p1), .val (.int p2), .val (.int p3), .val (.int (0 : Int32)), .unset, .val (.ref b26), .val (.int (1 : Int32)), .val (.int (0 : Int32)), .val (.ref us), .val (.ref tk), .val (.ref b_92), .val (.ref b_105)] [(.int (1 : Int32))]))
        refine o_pop X129 hx (hb hby at_132) rfl rfl ?_
        refine o_iload X129 hx (hb hby at_133) rfl rfl ?_
        refine o_iconst X129 hx (hb hby at_135) (v := (2 : Int32)) rfl rfl ?_
        refine o_icmpYes X129 hx (hb hby at_136) (tlt (by decide)).1 (by decide) (pc' := 156) (by decide) ?_
        refine o_new X129 hx hZ105 hown105 (wd55 hw) (wd56 hw) (wd57 hw) e129 (hb hby at_156) (by decide) (by decide) (cells' := 16) (slots' := 41) rfl rfl rfl fun T156_2 h156_2 b156_2 g156_2 X156_2 e156_2 E156_2 A156_2 D156_2 => ?_
        have s_b156_2_h0 : h0.size ≤ b156_2 := Nat.le_trans KK129_h0.1 (Nat.le_of_eq g156_2.symm)
        have n_b156_2 : n0 ≤ b156_2 := Nat.le_trans (OK129.1 ▸ OK129.2.1) (Nat.le_of_eq g156_2.symm)
        have KE156_2_h0 : Keep h0 h156_2 [] := KK129_h0.ext E156_2
        have OE156_2 : Old Z n0 h156_2 := OK129.ext E156_2
        have BE156_2 : HB Z consts_1 s s105 h0 h156_2 := BK129.ext E156_2
        have sf_b26_11 : Safe Z consts_1 s105.vm h156_2 b26 := own_sfE BK129.ch E156_2 sf_b26_10
        have sf_b118_4 : Safe Z consts_1 s105.vm h156_2 b118 := own_sfE BK129.ch E156_2 sf_b118_3
        have sf_b_129_2 : Safe Z consts_1 s105.vm h156_2 b_129 := own_sfE BK129.ch E156_2 sf_b_129
        have sf_b156_2_2 : Safe Z consts_1 s105.vm h156_2 b156_2 := own_sfE BK129.ch E156_2 (Safe.new (Z := Z) (EL := consts_1) (vm := s105.vm) (Nat.le_of_eq g156_2.symm))
        have Fb156_2_events : Fld Z h156_2 b156_2 "com/example/hybrev/hybrev/EventPage" "events" "Ljava/util/List;" .null := D156_2 (Or.inr (wd92 hw)) (ty := (.object "java/util/List")) (by decide)
        have Fb156_2_next : Fld Z h156_2 b156_2 "com/example/hybrev/hybrev/EventPage" "next" "Ljava/lang/String;" .null := D156_2 (Or.inr (wd100 hw)) (ty := (.object "java/lang/String")) (by decide)
        refine o_dup X156_2 hx (hb hby at_159) rfl rfl ?_
        refine o_aload X156_2 hx (hb hby at_160) rfl rfl rfl ?_
        refine o_iloadN X156_2 hx (hb hby at_162) rfl rfl ?_
        refine o_iloadN X156_2 hx (hb hby at_163) rfl rfl ?_
        refine o_iconst X156_2 hx (hb hby at_164) (v := (2 : Int32)) rfl rfl ?_
        refine o_iushr X156_2 hx (hb hby at_165) rfl ?_
        have fE166_2 : Exa Z h156_2 b26 "java/util/ArrayList" := (qE_129.ext E156_2)
        have fE166_3 : Exa Z h156_2 b_129 "[Ljava/lang/Object;" := (qE_129_2.ext E156_2)
        have fE166_4 : Exa Z h156_2 b118 "com/example/hybrev/hybrev/RevocationEvent" := ((qE_126.keep K129).ext E156_2)
        refine o_staticF X156_2 hx hZ105 hown105 (wd31 hw) (wd32 hw) (by decide) (rm5 l Z a0 hw p2 (((p1.toUInt32 >>> ((2 : Int32) &&& 31).toUInt32).toInt32)) cs h156_2 n0 OE156_2 S_COMPACT_STRINGS hcs) (wd34 hw) (wd33 hw) e156_2 BE156_2 (own_EW hw) sl0 sl0 (by rw [hml]; rfl) (argsL := [(.int p2), (.int ((p1.toUInt32 >>> ((2 : Int32) &&& 31).toUInt32).toInt32))]) (rest := [(.ref b26), (.ref b156_2), (.ref b156_2)]) (W := 3) pd17 rfl rfl rfl rfl (hb hby at_166) (by decide) (by decide) (by decide) (by decide) (cells' := 22) (slots' := 53) rfl rfl rfl fun v166_2 s166_2 T166_2 h166_2 Lc166_2 X166_2 e166_2 B166_2 hZ166_2 hown166_2 hS166_2 hq166_2 => ?_
        obtain ⟨b_166_2, rfl, N166q_2, K166_2, hb_166_2, qE_166_2⟩ := hq166_2
        have N166_2 := Fr.app N129 N166q_2
        have s_b_166_2_h0 : h0.size ≤ b_166_2 := Nat.le_trans KE156_2_h0.1 hb_166_2
        have n_b_166_2 : n0 ≤ b_166_2 := Nat.le_trans (OE156_2.1 ▸ OE156_2.2.1) hb_166_2
        have KK166_2_h0 : Keep h0 h166_2 [] := KE156_2_h0.trans K166_2 all0
        have OK166_2 : Old Z n0 h166_2 := OE156_2.keep K166_2 all0
        have sf_b26_12 := hS166_2 b26 fE166_2.lt sf_b26_11
        have sf_b118_5 := hS166_2 b118 fE166_4.lt sf_b118_4
        have sf_b_129_3 := hS166_2 b_129 fE166_3.lt sf_b_129_2
        have sf_b156_2_3 := hS166_2 b156_2 A156_2.lt sf_b156_2_2
        show Goes p.tables e below (EndsH Z consts_1 s h0 (Q0 Z p0 p1 p2 p3 cs de kd el ea ke mo em mp tk us h0 n0) room_1.cells room_1.slots) (T166_2.setTop (mkF m 169 #[.val (.int p0), .val (.int p1), .val (.int p2), .val (.int p3), .val (.int (0 : Int32)), .unset, .val (.ref b26), .val (.int (1 : Int32)), .val (.int (0 : Int32)), .val (.ref us), .val (.ref tk), .val (.ref b_92), .val (.ref b_105)] [(.ref b_166_2), (.ref b26), (.ref b156_2), (.ref b156_2)]))
        have fE169_3 : Exa Z h166_2 b156_2 "com/example/hybrev/hybrev/EventPage" := (A156_2.keep K166_2)
        have fF169_4 : Fld Z h166_2 b156_2 "com/example/hybrev/hybrev/EventPage" "events" "Ljava/util/List;" .null := (Fb156_2_events.keep K166_2 nin0)
        have fF169_5 : Fld Z h166_2 b156_2 "com/example/hybrev/hybrev/EventPage" "next" "Ljava/lang/String;" .null := (Fb156_2_next.keep K166_2 nin0)
        have fE169_4 : Exa Z h166_2 b26 "java/util/ArrayList" := (fE166_2.keep K166_2)
        have fF169_6 : Fld Z h166_2 b26 "java/util/ArrayList" "elementData" "[Ljava/lang/Object;" (.ref b_129) := ((qF_129.ext E156_2).keep K166_2 nin0)
        have fF169_7 : Fld Z h166_2 b26 "java/util/ArrayList" "size" "I" (.int (1 : Int32)) := ((qF_129_2.ext E156_2).keep K166_2 nin0)
        have fE169_5 : Exa Z h166_2 b_129 "[Ljava/lang/Object;" := (fE166_3.keep K166_2)
        have fA169 : Arv Z h166_2 b_129 k_129 (.object "java/lang/Object") (10 : Int32) [(.ref b118), .null, .null, .null, .null, .null, .null, .null, .null, .null] .null := ((qA_129.ext E156_2).keep K166_2 nin0)
        have fE169_6 : Exa Z h166_2 b118 "com/example/hybrev/hybrev/RevocationEvent" := (fE166_4.keep K166_2)
        refine o_specialF X166_2 hx hZ166_2 rfl rfl hown166_2 (wd58 hw) (wd59 hw) (by decide) (a := b156_2) (rmepi1 l Z a0 hw b156_2 b_166_2 b26 b_129 k_129 b118 mo em h166_2 n0 OK166_2 fE169_3 fF169_4 fF169_5 qE_166_2 fE169_4 fF169_6 fF169_7 fE169_5 fA169 fE169_6 hM S_EMPTY n_b156_2 (Ne.symm (Nat.ne_of_lt (Nat.lt_of_lt_of_le qF_129_3.lt (Nat.le_of_eq g156_2.symm)))) (Ne.symm (Nat.ne_of_lt (Nat.lt_of_lt_of_le qE_129_2.lt (Nat.le_of_eq g156_2.symm))))) (wd60 hw) (wd57 hw) e166_2 B166_2 (own_EW hw) (slS fE169_3.lt sl0) (slS sf_b156_2_3 sl0) (by rw [hml]; rfl) (argsL := [(.ref b26), (.ref b_166_2)]) (rest := [(.ref b156_2)]) (W := 1) pd18 rfl rfl rfl rfl (hb hby at_169) (by decide) (by decide) (by decide) (by decide) (cells' := 26) (slots' := 76) rfl rfl rfl fun v169_2 s169_2 T169_2 h169_2 Lc169_2 X169_2 e169_2 B169_2 hZ169_2 hown169_2 hS169_2 hq169_2 => ?_
        obtain ⟨rfl, N169q_2, K169_2, qE_169_2, qF_169_2⟩ := hq169_2
        have N169_2 := Fr.app N166_2 N169q_2
        have KK169_2_h0 : Keep h0 h169_2 [] := KK166_2_h0.trans K169_2 (allS (Or.inr s_b156_2_h0) all0)
        have OK169_2 : Old Z n0 h169_2 := OK166_2.keep K169_2 (allS n_b156_2 all0)
        have sf_b26_13 := hS169_2 b26 fE169_4.lt sf_b26_12
        have sf_b118_6 := hS169_2 b118 fE169_6.lt sf_b118_5
        have sf_b_129_4 := hS169_2 b_129 fE169_5.lt sf_b_129_3
        have sf_b156_2_4 := hS169_2 b156_2 fE169_3.lt sf_b156_2_3
        show Goes p.tables e below (EndsH Z consts_1 s h0 (Q0 Z p0 p1 p2 p3 cs de kd el ea ke mo em mp tk us h0 n0) room_1.cells room_1.slots) (T169_2.setTop (mkF m 172 #[.val (.int p0), .val (.int p1), .val (.int p2), .val (.int p3), .val (.int (0 : Int32)), .unset, .val (.ref b26), .val (.int (1 : Int32)), .val (.int (0 : Int32)), .val (.ref us), .val (.ref tk), .val (.ref b_92), .val (.ref b_105)] [(.ref b156_2)]))
        refine o_astore X169_2 hx (hb hby at_172) rfl (L' := #[.val (.int p0), .val (.int p1), .val (.int p2), .val (.int p3), .val (.int (0 : Int32)), .val (.ref b156_2), .val (.ref b26), .val (.int (1 : Int32)), .val (.int (0 : Int32)), .val (.ref us), .val (.ref tk), .val (.ref b_92), .val (.ref b_105)]) rfl rfl ?_
        refine o_aload X169_2 hx (hb hby at_174) rfl rfl rfl ?_
        refine o_virtual X169_2 hx hZ169_2 (C := "com/example/hybrev/hybrev/EventPage") hown169_2 (wd101 hw) (wd102 hw) (notFace_of_selects (args := #[]) (mvT hZ169_2 (wd104 hw))) (wd104 hw) (wd103 hw) (by decide) qE_169_2 (rmimR l Z a0 hw b156_2 b_166_2 h169_2 n0 OK169_2 qF_169_2) (wd105 hw) (wd57 hw) e169_2 (by rw [hml]; rfl) (argsL := []) (rest := []) (W := 0) pd12 rfl rfl rfl rfl (hb hby at_176) (by decide) (by decide) (by decide) (by decide) (cells' := 26) (slots' := 76) rfl rfl rfl fun v176_2 T176_2 h176_2 Lc176_2 X176_2 e176_3 hq176_2 => ?_
        obtain ⟨rfl, N176q_2, K176_2⟩ := hq176_2
        have N176_2 := Fr.app N169_2 N176q_2
        have e176_4 : T176_2.heap = h169_2 := e176_3.trans K176_2
        show Goes p.tables e below (EndsH Z consts_1 s h0 (Q0 Z p0 p1 p2 p3 cs de kd el ea ke mo em mp tk us h0 n0) room_1.cells room_1.slots) (T176_2.setTop (mkF m 179 #[.val (.int p0), .val (.int p1), .val (.int p2), .val (.int p3), .val (.int (0 : Int32)), .val (.ref b156_2), .val (.ref b26), .val (.int (1 : Int32)), .val (.int (0 : Int32)), .val (.ref us), .val (.ref tk), .val (.ref b_92), .val (.ref b_105)] [(.int (0 : Int32))]))
        refine o_istore X176_2 hx (hb hby at_179) (L' := #[.val (.int p0), .val (.int p1), .val (.int p2), .val (.int p3), .val (.int (0 : Int32)), .val (.ref b156_2), .val (.int (0 : Int32)), .val (.int (1 : Int32)), .val (.int (0 : Int32)), .val (.ref us), .val (.ref tk), .val (.ref b_92), .val (.ref b_105)]) rfl rfl ?_
        refine o_iload X176_2 hx (hb hby at_181) rfl rfl ?_
        refine o_iload X176_2 hx (hb hby at_183) rfl rfl ?_
        refine o_icmpYes X176_2 hx (hb hby at_185) (teq (by decide)).1 (by decide) (pc' := 190) (by decide) ?_
        refine o_iload X176_2 hx (hb hby at_190) rfl rfl ?_
        refine o_aload X176_2 hx (hb hby at_192) rfl rfl rfl ?_
        refine o_virtual X176_2 hx hZ169_2 (C := "com/example/hybrev/hybrev/EventPage") hown169_2 (wd106 hw) (wd107 hw) (notFace_of_selects (args := #[]) (mvT hZ169_2 (wd109 hw))) (wd109 hw) (wd108 hw) (by decide) qE_169_2 (rmgnR l Z a0 hw b156_2 b_166_2 h169_2 n0 OK169_2 qF_169_2) (wd110 hw) (wd57 hw) e176_4 (by rw [hml]; rfl) (argsL := []) (rest := [(.int (0 : Int32))]) (W := 1) pd19 rfl rfl rfl rfl (hb hby at_194) (by decide) (by decide) (by decide) (by decide) (cells' := 26) (slots' := 76) rfl rfl rfl fun v194_2 T194_2 h194_2 Lc194_2 X194_2 e194_3 hq194_2 => ?_
        obtain ⟨rfl, N194q_2, K194_2⟩ := hq194_2
        have N194_2 := Fr.app N176_2 N194q_2
        have e194_4 : T194_2.heap = h169_2 := e194_3.trans K194_2
        show Goes p.tables e below (EndsH Z consts_1 s h0 (Q0 Z p0 p1 p2 p3 cs de kd el ea ke mo em mp tk us h0 n0) room_1.cells room_1.slots) (T194_2.setTop (mkF m 197 #[.val (.int p0), .val (.int p1), .val (.int p2), .val (.int p3), .val (.int (0 : Int32)), .val (.ref b156_2), .val (.int (0 : Int32)), .val (.int (1 : Int32)), .val (.int (0 : Int32)), .val (.ref us), .val (.ref tk), .val (.ref b_92), .val (.ref b_105)] [(.ref b_166_2), (.int (0 : Int32))]))
        refine o_ifnonnullYes X194_2 hx (hb hby at_197) (by decide) (pc' := 204) (by decide) ?_
        refine o_iconst X194_2 hx (hb hby at_204) (v := (0 : Int32)) rfl rfl ?_
        refine o_icmpYes X194_2 hx (hb hby at_205) (teq (by decide)).1 (by decide) (pc' := 210) (by decide) ?_
        refine o_iload X194_2 hx (hb hby at_210) rfl rfl ?_
        refine o_ifYes X194_2 hx (hb hby at_212) ((if0 _ _).trans (teq (by decide)).1) (by decide) (pc' := 230) (by decide) ?_
        refine o_iconst X194_2 hx (hb hby at_230) (v := (1 : Int32)) rfl rfl ?_
        exact o_retH X194_2 hx hlk (t := .boolean) hret rfl (Or.inl ⟨rfl, by decide, _, rfl⟩) (hb hby at_231) (by decide) (by decide) e194_4 hZ169_2 (own_EW hw) B169_2 ⟨rfl, N194_2, KK169_2_h0⟩
      ·
        refine o_locs (L' := #[.val (.int p0), .val (.int p1), .val (.int p2), .val (.int p3), .val (.int (0 : Int32)), .unset, .val (.ref b26), .val (.int (2 : Int32)), .val (.int (0 : Int32)), .val (.ref us), .val (.ref tk), .val (.ref b_92), .val (.ref b_105)]) (by rw [hn3]) ?_
        refine o_iload X105 hx (hb hby at_110) rfl rfl ?_
        refine o_iconst X105 hx (hb hby at_112) (v := (1 : Int32)) rfl rfl ?_
        refine o_icmpNo X105 hx (hb hby at_113) (flt (by decide)).1 rfl ?_
        refine o_aload X105 hx (hb hby at_116) rfl rfl rfl ?_
        refine o_new X105 hx hZ105 hown105 (wd144 hw) (wd145 hw) (wd146 hw) e105 (hb hby at_118) (by decide) (by decide) (cells' := 14) (slots' := 29) rfl rfl rfl fun T118_2 h118_2 b118_2 g118_2 X118_2 e118_2 E118_2 A118_2 D118_2 => ?_
        have s_b118_2_h0 : h0.size ≤ b118_2 := Nat.le_trans KK105_h0.1 (Nat.le_of_eq g118_2.symm)
        have n_b118_2 : n0 ≤ b118_2 := Nat.le_trans (OK105.1 ▸ OK105.2.1) (Nat.le_of_eq g118_2.symm)
        have KE118_2_h0 : Keep h0 h118_2 [] := KK105_h0.ext E118_2
        have OE118_2 : Old Z n0 h118_2 := OK105.ext E118_2
        have BE118_2 : HB Z consts_1 s s105 h0 h118_2 := B105.ext E118_2
        have sf_b26_14 : Safe Z consts_1 s105.vm h118_2 b26 := own_sfE B105.ch E118_2 sf_b26_4
        have sf_b118_2_2 : Safe Z consts_1 s105.vm h118_2 b118_2 := own_sfE B105.ch E118_2 (Safe.new (Z := Z) (EL := consts_1) (vm := s105.vm) (Nat.le_of_eq g118_2.symm))
        have Fb118_2_kind : Fld Z h118_2 b118_2 "com/example/hybrev/hybrev/RevocationEvent" "kind" "Lcom/example/hybrev/hybrev/RevocationEvent$Kind;" .null := D118_2 (Or.inr (wd152 hw)) (ty := (.object "com/example/hybrev/hybrev/RevocationEvent$Kind")) (by decide)
        have Fb118_2_id : Fld Z h118_2 b118_2 "com/example/hybrev/hybrev/RevocationEvent" "id" "Ljava/lang/String;" .null := D118_2 (Or.inr (wd154 hw)) (ty := (.object "java/lang/String")) (by decide)
        refine o_dup X118_2 hx (hb hby at_121) rfl rfl ?_
        refine o_aload X118_2 hx (hb hby at_122) rfl rfl rfl ?_
        refine o_aload X118_2 hx (hb hby at_124) rfl rfl rfl ?_
        refine o_special X118_2 hx hZ105 rfl rfl hown105 (wd147 hw) (wd148 hw) (by decide) (a := b118_2) (rm22 l Z a0 hw b118_2 us b_92 h118_2 n0 OE118_2 A118_2 Fb118_2_kind Fb118_2_id n_b118_2) (wd149 hw) (wd146 hw) e118_2 (by rw [hml]; rfl) (argsL := [(.ref us), (.ref b_92)]) (rest := [(.ref b118_2), (.ref b26)]) (W := 2) pd20 rfl rfl rfl rfl (hb hby at_126) (by decide) (by decide) (by decide) (by decide) (cells' := 14) (slots' := 29) rfl rfl rfl fun v126_2 T126_2 h126_2 Lc126_2 X126_2 e126_2 hq126_2 => ?_
        obtain ⟨rfl, N126q_2, K126_2, qE_126_2⟩ := hq126_2
        have N126_2 := Fr.app N105 N126q_2
        have KK126_2_h0 : Keep h0 h126_2 [] := KE118_2_h0.trans K126_2 (allS (Or.inr s_b118_2_h0) all0)
        have OK126_2 : Old Z n0 h126_2 := OE118_2.keep K126_2 (allS n_b118_2 all0)
        have BK126_2 : HB Z consts_1 s s105 h0 h126_2 := BE118_2.keep K126_2 (slS sf_b118_2_2 sl0)
        have sf_b26_15 : Safe Z consts_1 s105.vm h126_2 b26 := own_sfK BE118_2.ch K126_2 (slS sf_b118_2_2 sl0) sf_b26_14
        have sf_b118_2_3 : Safe Z consts_1 s105.vm h126_2 b118_2 := own_sfK BE118_2.ch K126_2 (slS sf_b118_2_2 sl0) sf_b118_2_2
        show Goes p.tables e below (EndsH Z consts_1 s h0 (Q0 Z p0 p1 p2 p3 cs de kd el ea ke mo em mp tk us h0 n0) room_1.cells room_1.slots) (T126_2.setTop (mkF m 129 #[.val (.int p0), .val (.int p1), .val (.int p2), .val (.int p3), .val (.int (0 : Int32)), .unset, .val (.ref b26), .val (.int (2 : Int32)), .val (.int (0 : Int32)), .val (.ref us), .val (.ref tk), .val (.ref b_92), .val (.ref b_105)] [(.ref b118_2), (.ref b26)]))
        have fE129_3 : Exa Z h126_2 b26 "java/util/ArrayList" := (((fE105.keep K105).ext E118_2).keep K126_2)
        have fF129_4 : Fld Z h126_2 b26 "java/util/ArrayList" "elementData" "[Ljava/lang/Object;" (.ref de) := ((((qF_30.keep K92 nin0).keep K105 nin0).ext E118_2).keep K126_2 (ninS (Nat.ne_of_lt (Nat.lt_of_lt_of_le ((qF_30_3.keep K92 nin0).keep K105 nin0).lt (Nat.le_of_eq g118_2.symm))) nin0))
        have fF129_5 : Fld Z h126_2 b26 "java/util/ArrayList" "size" "I" (.int (0 : Int32)) := ((((qF_30_2.keep K92 nin0).keep K105 nin0).ext E118_2).keep K126_2 (ninS (Nat.ne_of_lt (Nat.lt_of_lt_of_le ((qF_30_3.keep K92 nin0).keep K105 nin0).lt (Nat.le_of_eq g118_2.symm))) nin0))
        have fF129_6 : Fld Z h126_2 b26 "java/util/AbstractList" "modCount" "I" (.int (0 : Int32)) := ((((qF_30_3.keep K92 nin0).keep K105 nin0).ext E118_2).keep K126_2 (ninS (Nat.ne_of_lt (Nat.lt_of_lt_of_le ((qF_30_3.keep K92 nin0).keep K105 nin0).lt (Nat.le_of_eq g118_2.symm))) nin0))
        have fE129_4 : Exa Z h126_2 de "[Ljava/lang/Object;" := (((((fE30.keep K30).keep K92).keep K105).ext E118_2).keep K126_2)
        have fA129_2 : Arv Z h126_2 de kd (.object "java/lang/Object") (0 : Int32) [] .null := (((((fA30.keep K30 (ninS (Nat.ne_of_lt (Nat.lt_of_lt_of_le E_de.lt (Nat.le_of_eq g26.symm))) nin0)).keep K92 nin0).keep K105 nin0).ext E118_2).keep K126_2 (ninS (Nat.ne_of_lt (Nat.lt_of_lt_of_le (((fA30.keep K30 (ninS (Nat.ne_of_lt (Nat.lt_of_lt_of_le E_de.lt (Nat.le_of_eq g26.symm))) nin0)).keep K92 nin0).keep K105 nin0).lt (Nat.le_of_eq g118_2.symm))) nin0))
        refine o_virtual X126_2 hx hZ105 (C := "java/util/ArrayList") hown105 (wd155 hw) (wd156 hw) (notFace_of_selects (args := #[]) (mvT hZ105 (wd158 hw))) (wd158 hw) (wd157 hw) (by decide) fE129_3 (rmad0 l Z a0 hw b26 ((0 : Int32)) de kd b118_2 h126_2 n0 OK126_2 fE129_3 fF129_4 fF129_5 fF129_6 S_DEFAULTCAPACITY_EMPTY_ELEMENTDATA fE129_4 fA129_2 n_b26 qE_126_2) (wd159 hw) (wd2 hw) e126_2 (by rw [hml]; rfl) (argsL := [(.ref b118_2)]) (rest := []) (W := 0) pd21 rfl rfl rfl rfl (hb hby at_129) (by decide) (by decide) (by decide) (by decide) (cells' := 15) (slots' := 39) rfl rfl rfl fun v129_2 T129_2 h129_2 Lc129_2 X129_2 e129_2 hq129_2 => ?_
        obtain ⟨b_129_2, k_129_2, rfl, N129q_2, K129_2, hb_129_2, qE_129_3, qE_129_4, qF_129_4, qF_129_5, qF_129_6, qA_129_2, hO_129_2⟩ := hq129_2
        have N129_2 := Fr.app N126_2 N129q_2
        have s_b_129_2_h0 : h0.size ≤ b_129_2 := Nat.le_trans KK126_2_h0.1 hb_129_2
        have n_b_129_2 : n0 ≤ b_129_2 := Nat.le_trans (OK126_2.1 ▸ OK126_2.2.1) hb_129_2
        have KK129_2_h0 : Keep h0 h129_2 [] := KK126_2_h0.trans K129_2 (allS (Or.inr s_b26_h0) all0)
        have OK129_2 : Old Z n0 h129_2 := OK126_2.keep K129_2 (allS n_b26 all0)
        have BK129_2 : HB Z consts_1 s s105 h0 h129_2 := BK126_2.keep K129_2 (slS sf_b26_15 sl0)
        have sf_b26_16 : Safe Z consts_1 s105.vm h129_2 b26 := own_sfK BK126_2.ch K129_2 (slS sf_b26_15 sl0) sf_b26_15
        have sf_b118_2_4 : Safe Z consts_1 s105.vm h129_2 b118_2 := own_sfK BK126_2.ch K129_2 (slS sf_b26_15 sl0) sf_b118_2_3
        have sf_b_129_2_2 : Safe Z consts_1 s105.vm h129_2 b_129_2 := own_sfK BK126_2.ch K129_2 (slS sf_b26_15 sl0) (Safe.new (Z := Z) (EL := consts_1) (vm := s105.vm) hb_129_2)
        show Goes p.tables e below (EndsH Z consts_1 s h0 (Q0 Z p0 p1 p2 p3 cs de kd el ea ke mo em mp tk us h0 n0) room_1.cells room_1.slots) (T129_2.setTop (mkF m 132 #[.val (.int p0), .val (.int p1), .val (.int p2), .val (.int p3), .val (.int (0 : Int32)), .unset, .val (.ref b26), .val (.int (2 : Int32)), .val (.int (0 : Int32)), .val (.ref us), .val (.ref tk), .val (.ref b_92), .val (.ref b_105)] [(.int (1 : Int32))]))
        refine o_pop X129_2 hx (hb hby at_132) rfl rfl ?_
        refine o_iload X129_2 hx (hb hby at_133) rfl rfl ?_
        refine o_iconst X129_2 hx (hb hby at_135) (v := (2 : Int32)) rfl rfl ?_
        refine o_icmpNo X129_2 hx (hb hby at_136) (flt (by decide)).1 rfl ?_
        refine o_aload X129_2 hx (hb hby at_139) rfl rfl rfl ?_
        refine o_new X129_2 hx hZ105 hown105 (wd144 hw) (wd145 hw) (wd146 hw) e129_2 (hb hby at_141) (by decide) (by decide) (cells' := 16) (slots' := 41) rfl rfl rfl fun T141 h141 b141 g141 X141 e141 E141 A141 D141 => ?_
        have s_b141_h0 : h0.size ≤ b141 := Nat.le_trans KK129_2_h0.1 (Nat.le_of_eq g141.symm)
        have n_b141 : n0 ≤ b141 := Nat.le_trans (OK129_2.1 ▸ OK129_2.2.1) (Nat.le_of_eq g141.symm)
        have KE141_h0 : Keep h0 h141 [] := KK129_2_h0.ext E141
        have OE141 : Old Z n0 h141 := OK129_2.ext E141
        have BE141 : HB Z consts_1 s s105 h0 h141 := BK129_2.ext E141
        have sf_b26_17 : Safe Z consts_1 s105.vm h141 b26 := own_sfE BK129_2.ch E141 sf_b26_16
        have sf_b118_2_5 : Safe Z consts_1 s105.vm h141 b118_2 := own_sfE BK129_2.ch E141 sf_b118_2_4
        have sf_b_129_2_3 : Safe Z consts_1 s105.vm h141 b_129_2 := own_sfE BK129_2.ch E141 sf_b_129_2_2
        have sf_b141 : Safe Z consts_1 s105.vm h141 b141 := own_sfE BK129_2.ch E141 (Safe.new (Z := Z) (EL := consts_1) (vm := s105.vm) (Nat.le_of_eq g141.symm))
        have Fb141_kind : Fld Z h141 b141 "com/example/hybrev/hybrev/RevocationEvent" "kind" "Lcom/example/hybrev/hybrev/RevocationEvent$Kind;" .null := D141 (Or.inr (wd152 hw)) (ty := (.object "com/example/hybrev/hybrev/RevocationEvent$Kind")) (by decide)
        have Fb141_id : Fld Z h141 b141 "com/example/hybrev/hybrev/RevocationEvent" "id" "Ljava/lang/String;" .null := D141 (Or.inr (wd154 hw)) (ty := (.object "java/lang/String")) (by decide)
        refine o_dup X141 hx (hb hby at_144) rfl rfl ?_
        refine o_aload X141 hx (hb hby at_145) rfl rfl rfl ?_
        refine o_aload X141 hx (hb hby at_147) rfl rfl rfl ?_
        refine o_special X141 hx hZ105 rfl rfl hown105 (wd147 hw) (wd148 hw) (by decide) (a := b141) (rm22 l Z a0 hw b141 tk b_105 h141 n0 OE141 A141 Fb141_kind Fb141_id n_b141) (wd149 hw) (wd146 hw) e141 (by rw [hml]; rfl) (argsL := [(.ref tk), (.ref b_105)]) (rest := [(.ref b141), (.ref b26)]) (W := 2) pd20 rfl rfl rfl rfl (hb hby at_149) (by decide) (by decide) (by decide) (by decide) (cells' := 16) (slots' := 41) rfl rfl rfl fun v149 T149 h149 Lc149 X149 e149 hq149 => ?_
        obtain ⟨rfl, N149q, K149, qE_149⟩ := hq149
        have N149 := Fr.app N129_2 N149q
        have KK149_h0 : Keep h0 h149 [] := KE141_h0.trans K149 (allS (Or.inr s_b141_h0) all0)
        have OK149 : Old Z n0 h149 := OE141.keep K149 (allS n_b141 all0)
        have BK149 : HB Z consts_1 s s105 h0 h149 := BE141.keep K149 (slS sf_b141 sl0)
        have sf_b26_18 : Safe Z consts_1 s105.vm h149 b26 := own_sfK BE141.ch K149 (slS sf_b141 sl0) sf_b26_17
        have sf_b118_2_6 : Safe Z consts_1 s105.vm h149 b118_2 := own_sfK BE141.ch K149 (slS sf_b141 sl0) sf_b118_2_5
        have sf_b_129_2_4 : Safe Z consts_1 s105.vm h149 b_129_2 := own_sfK BE141.ch K149 (slS sf_b141 sl0) sf_b_129_2_3
        have sf_b141_2 : Safe Z consts_1 s105.vm h149 b141 := own_sfK BE141.ch K149 (slS sf_b141 sl0) sf_b141
        show Goes p.tables e below (EndsH Z consts_1 s h0 (Q0 Z p0 p1 p2 p3 cs de kd el ea ke mo em mp tk us h0 n0) room_1.cells room_1.slots) (T149.setTop (mkF m 152 #[.val (.int p0), .val (.int p1), .val (.int p2), .val (.int p3), .val (.int (0 : Int32)), .unset, .val (.ref b26), .val (.int (2 : Int32)), .val (.int (0 : Int32)), .val (.ref us), .val (.ref tk), .val (.ref b_92), .val (.ref b_105)] [(.ref b141), (.ref b26)]))
        have fE152 : Exa Z h149 b26 "java/util/ArrayList" := ((qE_129_3.ext E141).keep K149)
        have fE152_2 : Exa Z h149 b_129_2 "[Ljava/lang/Object;" := ((qE_129_4.ext E141).keep K149)
        have fF152 : Fld Z h149 b26 "java/util/ArrayList" "elementData" "[Ljava/lang/Object;" (.ref b_129_2) := ((qF_129_4.ext E141).keep K149 (ninS (Nat.ne_of_lt (Nat.lt_of_lt_of_le qF_129_6.lt (Nat.le_of_eq g141.symm))) nin0))
        have fF152_2 : Fld Z h149 b26 "java/util/ArrayList" "size" "I" (.int (1 : Int32)) := ((qF_129_5.ext E141).keep K149 (ninS (Nat.ne_of_lt (Nat.lt_of_lt_of_le qF_129_6.lt (Nat.le_of_eq g141.symm))) nin0))
        have fF152_3 : Fld Z h149 b26 "java/util/AbstractList" "modCount" "I" (.int ((0 : Int32) + (1 : Int32))) := ((qF_129_6.ext E141).keep K149 (ninS (Nat.ne_of_lt (Nat.lt_of_lt_of_le qF_129_6.lt (Nat.le_of_eq g141.symm))) nin0))
        have fA152 : Arv Z h149 b_129_2 k_129_2 (.object "java/lang/Object") (10 : Int32) [(.ref b118_2), .null, .null, .null, .null, .null, .null, .null, .null, .null] .null := ((qA_129_2.ext E141).keep K149 (ninS (Nat.ne_of_lt (Nat.lt_of_lt_of_le qA_129_2.lt (Nat.le_of_eq g141.symm))) nin0))
        refine o_virtual X149 hx hZ105 (C := "java/util/ArrayList") hown105 (wd155 hw) (wd156 hw) (notFace_of_selects (args := #[]) (mvT hZ105 (wd158 hw))) (wd158 hw) (wd157 hw) (by decide) fE152 (rmad1 l Z a0 hw b26 (((0 : Int32) + (1 : Int32))) b_129_2 k_129_2 b118_2 b141 h149 n0 OK149 fE152 fE152_2 fF152 fF152_2 fF152_3 fA152 hO_129_2 n_b_129_2 (Nat.ne_of_lt (Nat.lt_of_lt_of_le (Nat.lt_of_lt_of_le (Nat.lt_of_lt_of_le (Nat.lt_of_lt_of_le (Nat.lt_of_lt_of_le (Nat.lt_of_lt_of_le A26.lt K30.1) K92.1) K105.1) E118_2.1) K126_2.1) hb_129_2)) n_b26 qE_149) (wd159 hw) (wd2 hw) e149 (by rw [hml]; rfl) (argsL := [(.ref b141)]) (rest := []) (W := 0) pd21 rfl rfl rfl rfl (hb hby at_152) (by decide) (by decide) (by decide) (by decide) (cells' := 16) (slots' := 41) rfl rfl rfl fun v152 T152 h152 Lc152 X152 e152 hq152 => ?_
        obtain ⟨rfl, N152q, K152, qE_152, qE_152_2, qF_152, qF_152_2, qF_152_3, qA_152⟩ := hq152
        have N152 := Fr.app N149 N152q
        have KK152_h0 : Keep h0 h152 [] := KK149_h0.trans K152 (allS (Or.inr s_b26_h0) (allS (Or.inr s_b_129_2_h0) all0))
        have OK152 : Old Z n0 h152 := OK149.keep K152 (allS n_b26 (allS n_b_129_2 all0))
        have BK152 : HB Z consts_1 s s105 h0 h152 := BK149.keep K152 (slS sf_b26_18 (slS sf_b_129_2_4 sl0))
        have sf_b26_19 : Safe Z consts_1 s105.vm h152 b26 := own_sfK BK149.ch K152 (slS sf_b26_18 (slS sf_b_129_2_4 sl0)) sf_b26_18
        have sf_b118_2_7 : Safe Z consts_1 s105.vm h152 b118_2 := own_sfK BK149.ch K152 (slS sf_b26_18 (slS sf_b_129_2_4 sl0)) sf_b118_2_6
        have sf_b_129_2_5 : Safe Z consts_1 s105.vm h152 b_129_2 := own_sfK BK149.ch K152 (slS sf_b26_18 (slS sf_b_129_2_4 sl0)) sf_b_129_2_4
        have sf_b141_3 : Safe Z consts_1 s105.vm h152 b141 := own_sfK BK149.ch K152 (slS sf_b26_18 (slS sf_b_129_2_4 sl0)) sf_b141_2
        show Goes p.tables e below (EndsH Z consts_1 s h0 (Q0 Z p0 p1 p2 p3 cs de kd el ea ke mo em mp tk us h0 n0) room_1.cells room_1.slots) (T152.setTop (mkF m 155 #[.val (.int p0), .val (.int p1), .val (.int p2), .val (.int p3), .val (.int (0 : Int32)), .unset, .val (.ref b26), .val (.int (2 : Int32)), .val (.int (0 : Int32)), .val (.ref us), .val (.ref tk), .val (.ref b_92), .val (.ref b_105)] [(.int (1 : Int32))]))
        refine o_pop X152 hx (hb hby at_155) rfl rfl ?_
        refine o_new X152 hx hZ105 hown105 (wd55 hw) (wd56 hw) (wd57 hw) e152 (hb hby at_156) (by decide) (by decide) (cells' := 17) (slots' := 43) rfl rfl rfl fun T156_3 h156_3 b156_3 g156_3 X156_3 e156_3 E156_3 A156_3 D156_3 => ?_
        have s_b156_3_h0 : h0.size ≤ b156_3 := Nat.le_trans KK152_h0.1 (Nat.le_of_eq g156_3.symm)
        have n_b156_3 : n0 ≤ b156_3 := Nat.le_trans (OK152.1 ▸ OK152.2.1) (Nat.le_of_eq g156_3.symm)
        have KE156_3_h0 : Keep h0 h156_3 [] := KK152_h0.ext E156_3
        have OE156_3 : Old Z n0 h156_3 := OK152.ext E156_3
        have BE156_3 : HB Z consts_1 s s105 h0 h156_3 := BK152.ext E156_3
        have sf_b26_20 : Safe Z consts_1 s105.vm h156_3 b26 := own_sfE BK152.ch E156_3 sf_b26_19
        have sf_b118_2_8 : Safe Z consts_1 s105.vm h156_3 b118_2 := own_sfE BK152.ch E156_3 sf_b118_2_7
        have sf_b_129_2_6 : Safe Z consts_1 s105.vm h156_3 b_129_2 := own_sfE BK152.ch E156_3 sf_b_129_2_5
        have sf_b141_4 : Safe Z consts_1 s105.vm h156_3 b141 := own_sfE BK152.ch E156_3 sf_b141_3
        have sf_b156_3_2 : Safe Z consts_1 s105.vm h156_3 b156_3 := own_sfE BK152.ch E156_3 (Safe.new (Z := Z) (EL := consts_1) (vm := s105.vm) (Nat.le_of_eq g156_3.symm))
        have Fb156_3_events : Fld Z h156_3 b156_3 "com/example/hybrev/hybrev/EventPage" "events" "Ljava/util/List;" .null := D156_3 (Or.inr (wd92 hw)) (ty := (.object "java/util/List")) (by decide)
        have Fb156_3_next : Fld Z h156_3 b156_3 "com/example/hybrev/hybrev/EventPage" "next" "Ljava/lang/String;" .null := D156_3 (Or.inr (wd100 hw)) (ty := (.object "java/lang/String")) (by decide)
        refine o_dup X156_3 hx (hb hby at_159) rfl rfl ?_
        refine o_aload X156_3 hx (hb hby at_160) rfl rfl rfl ?_
        refine o_iloadN X156_3 hx (hb hby at_162) rfl rfl ?_
        refine o_iloadN X156_3 hx (hb hby at_163) rfl rfl ?_
        refine o_iconst X156_3 hx (hb hby at_164) (v := (2 : Int32)) rfl rfl ?_
        refine o_iushr X156_3 hx (hb hby at_165) rfl ?_
        have fE166_5 : Exa Z h156_3 b141 "com/example/hybrev/hybrev/RevocationEvent" := ((qE_149.keep K152).ext E156_3)
        have fE166_6 : Exa Z h156_3 b26 "java/util/ArrayList" := (qE_152.ext E156_3)
        have fE166_7 : Exa Z h156_3 b118_2 "com/example/hybrev/hybrev/RevocationEvent" := (((((qE_126_2.keep K129_2).ext E141).keep K149).keep K152).ext E156_3)
        have fE166_8 : Exa Z h156_3 b_129_2 "[Ljava/lang/Object;" := (qE_152_2.ext E156_3)
        refine o_staticF X156_3 hx hZ105 hown105 (wd31 hw) (wd32 hw) (by decide) (rm5 l Z a0 hw p2 (((p1.toUInt32 >>> ((2 : Int32) &&& 31).toUInt32).toInt32)) cs h156_3 n0 OE156_3 S_COMPACT_STRINGS hcs) (wd34 hw) (wd33 hw) e156_3 BE156_3 (own_EW hw) sl0 sl0 (by rw [hml]; rfl) (argsL := [(.int p2), (.int ((p1.toUInt32 >>> ((2 : Int32) &&& 31).toUInt32).toInt32))]) (rest := [(.ref b26), (.ref b156_3), (.ref b156_3)]) (W := 3) pd17 rfl rfl rfl rfl (hb hby at_166) (by decide) (by decide) (by decide) (by decide) (cells' := 23) (slots' := 55) rfl rfl rfl fun v166_3 s166_3 T166_3 h166_3 Lc166_3 X166_3 e166_3 B166_3 hZ166_3 hown166_3 hS166_3 hq166_3 => ?_
        obtain ⟨b_166_3, rfl, N166q_3, K166_3, hb_166_3, qE_166_3⟩ := hq166_3
        have N166_3 := Fr.app N152 N166q_3
        have s_b_166_3_h0 : h0.size ≤ b_166_3 := Nat.le_trans KE156_3_h0.1 hb_166_3
        have n_b_166_3 : n0 ≤ b_166_3 := Nat.le_trans (OE156_3.1 ▸ OE156_3.2.1) hb_166_3
        have KK166_3_h0 : Keep h0 h166_3 [] := KE156_3_h0.trans K166_3 all0
        have OK166_3 : Old Z n0 h166_3 := OE156_3.keep K166_3 all0
        have sf_b26_21 := hS166_3 b26 fE166_6.lt sf_b26_20
        have sf_b118_2_9 := hS166_3 b118_2 fE166_7.lt sf_b118_2_8
        have sf_b_129_2_7 := hS166_3 b_129_2 fE166_8.lt sf_b_129_2_6
        have sf_b141_5 := hS166_3 b141 fE166_5.lt sf_b141_4
        have sf_b156_3_3 := hS166_3 b156_3 A156_3.lt sf_b156_3_2
        show Goes p.tables e below (EndsH Z consts_1 s h0 (Q0 Z p0 p1 p2 p3 cs de kd el ea ke mo em mp tk us h0 n0) room_1.cells room_1.slots) (T166_3.setTop (mkF m 169 #[.val (.int p0), .val (.int p1), .val (.int p2), .val (.int p3), .val (.int (0 : Int32)), .unset, .val (.ref b26), .val (.int (2 : Int32)), .val (.int (0 : Int32)), .val (.ref us), .val (.ref tk), .val (.ref b_92), .val (.ref b_105)] [(.ref b_166_3), (.ref b26), (.ref b156_3), (.ref b156_3)]))
        have fE169_7 : Exa Z h166_3 b156_3 "com/example/hybrev/hybrev/EventPage" := (A156_3.keep K166_3)
        have fF169_8 : Fld Z h166_3 b156_3 "com/example/hybrev/hybrev/EventPage" "events" "Ljava/util/List;" .null := (Fb156_3_events.keep K166_3 nin0)
        have fF169_9 : Fld Z h166_3 b156_3 "com/example/hybrev/hybrev/EventPage" "next" "Ljava/lang/String;" .null := (Fb156_3_next.keep K166_3 nin0)
        have fE169_8 : Exa Z h166_3 b26 "java/util/ArrayList" := (fE166_6.keep K166_3)
        have fF169_10 : Fld Z h166_3 b26 "java/util/ArrayList" "elementData" "[Ljava/lang/Object;" (.ref b_129_2) := ((qF_152.ext E156_3).keep K166_3 nin0)
        have fF169_11 : Fld Z h166_3 b26 "java/util/ArrayList" "size" "I" (.int (2 : Int32)) := ((qF_152_2.ext E156_3).keep K166_3 nin0)
        have fE169_9 : Exa Z h166_3 b_129_2 "[Ljava/lang/Object;" := (fE166_8.keep K166_3)
        have fA169_2 : Arv Z h166_3 b_129_2 k_129_2 (.object "java/lang/Object") (10 : Int32) [(.ref b118_2), (.ref b141), .null, .null, .null, .null, .null, .null, .null, .null] .null := ((qA_152.ext E156_3).keep K166_3 nin0)
        have fE169_10 : Exa Z h166_3 b118_2 "com/example/hybrev/hybrev/RevocationEvent" := (fE166_7.keep K166_3)
        have fE169_11 : Exa Z h166_3 b141 "com/example/hybrev/hybrev/RevocationEvent" := (fE166_5.keep K166_3)
        refine o_specialF X166_3 hx hZ166_3 rfl rfl hown166_3 (wd58 hw) (wd59 hw) (by decide) (a := b156_3) (rmepi2 l Z a0 hw b156_3 b_166_3 b26 b_129_2 k_129_2 b118_2 b141 mo em h166_3 n0 OK166_3 fE169_7 fF169_8 fF169_9 qE_166_3 fE169_8 fF169_10 fF169_11 fE169_9 fA169_2 fE169_10 fE169_11 hM S_EMPTY n_b156_3 (Ne.symm (Nat.ne_of_lt (Nat.lt_of_lt_of_le qF_152_3.lt (Nat.le_of_eq g156_3.symm)))) (Ne.symm (Nat.ne_of_lt (Nat.lt_of_lt_of_le (Nat.lt_of_lt_of_le (Nat.lt_of_lt_of_le (Nat.lt_of_lt_of_le qE_129_4.lt E141.1) K149.1) K152.1) (Nat.le_of_eq g156_3.symm))))) (wd60 hw) (wd57 hw) e166_3 B166_3 (own_EW hw) (slS fE169_7.lt sl0) (slS sf_b156_3_3 sl0) (by rw [hml]; rfl) (argsL := [(.ref b26), (.ref b_166_3)]) (rest := [(.ref b156_3)]) (W := 1) pd18 rfl rfl rfl rfl (hb hby at_169) (by decide) (by decide) (by decide) (by decide) (cells' := 27) (slots' := 79) rfl rfl rfl fun v169_3 s169_3 T169_3 h169_3 Lc169_3 X169_3 e169_3 B169_3 hZ169_3 hown169_3 hS169_3 hq169_3 => ?_
        obtain ⟨rfl, N169q_3, K169_3, qE_169_3, qF_169_3⟩ := hq169_3
        have N169_3 := Fr.app N166_3 N169q_3
        have KK169_3_h0 : Keep h0 h169_3 [] := KK166_3_h0.trans K169_3 (allS (Or.inr s_b156_3_h0) all0)
        have OK169_3 : Old Z n0 h169_3 := OK166_3.keep K169_3 (allS n_b156_3 all0)
        have sf_b26_22 := hS169_3 b26 fE169_8.lt sf_b26_21
        have sf_b118_2_10 := hS169_3 b118_2 fE169_10.lt sf_b118_2_9
        have sf_b_129_2_8 := hS169_3 b_129_2 fE169_9.lt sf_b_129_2_7
        have sf_b141_6 := hS169_3 b141 fE169_11.lt sf_b141_5
        have sf_b156_3_4 := hS169_3 b156_3 fE169_7.lt sf_b156_3_3
        show Goes p.tables e below (EndsH Z consts_1 s h0 (Q0 Z p0 p1 p2 p3 cs de kd el ea ke mo em mp tk us h0 n0) room_1.cells room_1.slots) (T169_3.setTop (mkF m 172 #[.val (.int p0), .val (.int p1), .val (.int p2), .val (.int p3), .val (.int (0 : Int32)), .unset, .val (.ref b26), .val (.int (2 : Int32)), .val (.int (0 : Int32)), .val (.ref us), .val (.ref tk), .val (.ref b_92), .val (.ref b_105)] [(.ref b156_3)]))
        refine o_astore X169_3 hx (hb hby at_172) rfl (L' := #[.val (.int p0), .val (.int p1), .val (.int p2), .val (.int p3), .val (.int (0 : Int32)), .val (.ref b156_3), .val (.ref b26), .val (.int (2 : Int32)), .val (.int (0 : Int32)), .val (.ref us), .val (.ref tk), .val (.ref b_92), .val (.ref b_105)]) rfl rfl ?_
        refine o_aload X169_3 hx (hb hby at_174) rfl rfl rfl ?_
        refine o_virtual X169_3 hx hZ169_3 (C := "com/example/hybrev/hybrev/EventPage") hown169_3 (wd101 hw) (wd102 hw) (notFace_of_selects (args := #[]) (mvT hZ169_3 (wd104 hw))) (wd104 hw) (wd103 hw) (by decide) qE_169_3 (rmimR l Z a0 hw b156_3 b_166_3 h169_3 n0 OK169_3 qF_169_3) (wd105 hw) (wd57 hw) e169_3 (by rw [hml]; rfl) (argsL := []) (rest := []) (W := 0) pd12 rfl rfl rfl rfl (hb hby at_176) (by decide) (by decide) (by decide) (by decide) (cells' := 27) (slots' := 79) rfl rfl rfl fun v176_3 T176_3 h176_3 Lc176_3 X176_3 e176_5 hq176_3 => ?_
        obtain ⟨rfl, N176q_3, K176_3⟩ := hq176_3
        have N176_3 := Fr.app N169_3 N176q_3
        have e176_6 : T176_3.heap = h169_3 := e176_5.trans K176_3
        show Goes p.tables e below (EndsH Z consts_1 s h0 (Q0 Z p0 p1 p2 p3 cs de kd el ea ke mo em mp tk us h0 n0) room_1.cells room_1.slots) (T176_3.setTop (mkF m 179 #[.val (.int p0), .val (.int p1), .val (.int p2), .val (.int p3), .val (.int (0 : Int32)), .val (.ref b156_3), .val (.ref b26), .val (.int (2 : Int32)), .val (.int (0 : Int32)), .val (.ref us), .val (.ref tk), .val (.ref b_92), .val (.ref b_105)] [(.int (0 : Int32))]))
        refine o_istore X176_3 hx (hb hby at_179) (L' := #[.val (.int p0), .val (.int p1), .val (.int p2), .val (.int p3), .val (.int (0 : Int32)), .val (.ref b156_3), .val (.int (0 : Int32)), .val (.int (2 : Int32)), .val (.int (0 : Int32)), .val (.ref us), .val (.ref tk), .val (.ref b_92), .val (.ref b_105)]) rfl rfl ?_
        refine o_iload X176_3 hx (hb hby at_181) rfl rfl ?_
        refine o_iload X176_3 hx (hb hby at_183) rfl rfl ?_
        refine o_icmpYes X176_3 hx (hb hby at_185) (teq (by decide)).1 (by decide) (pc' := 190) (by decide) ?_
        refine o_iload X176_3 hx (hb hby at_190) rfl rfl ?_
        refine o_aload X176_3 hx (hb hby at_192) rfl rfl rfl ?_
        refine o_virtual X176_3 hx hZ169_3 (C := "com/example/hybrev/hybrev/EventPage") hown169_3 (wd106 hw) (wd107 hw) (notFace_of_selects (args := #[]) (mvT hZ169_3 (wd109 hw))) (wd109 hw) (wd108 hw) (by decide) qE_169_3 (rmgnR l Z a0 hw b156_3 b_166_3 h169_3 n0 OK169_3 qF_169_3) (wd110 hw) (wd57 hw) e176_6 (by rw [hml]; rfl) (argsL := []) (rest := [(.int (0 : Int32))]) (W := 1) pd19 rfl rfl rfl rfl (hb hby at_194) (by decide) (by decide) (by decide) (by decide) (cells' := 27) (slots' := 79) rfl rfl rfl fun v194_3 T194_3 h194_3 Lc194_3 X194_3 e194_5 hq194_3 => ?_
        obtain ⟨rfl, N194q_3, K194_3⟩ := hq194_3
        have N194_3 := Fr.app N176_3 N194q_3
        have e194_6 : T194_3.heap = h169_3 := e194_5.trans K194_3
        show Goes p.tables e below (EndsH Z consts_1 s h0 (Q0 Z p0 p1 p2 p3 cs de kd el ea ke mo em mp tk us h0 n0) room_1.cells room_1.slots) (T194_3.setTop (mkF m 197 #[.val (.int p0), .val (.int p1), .val (.int p2), .val (.int p3), .val (.int (0 : Int32)), .val (.ref b156_3), .val (.int (0 : Int32)), .val (.int (2 : Int32)), .val (.int (0 : Int32)), .val (.ref us), .val (.ref tk), .val (.ref b_92), .val (.ref b_105)] [(.ref b_166_3), (.int (0 : Int32))]))
        refine o_ifnonnullYes X194_3 hx (hb hby at_197) (by decide) (pc' := 204) (by decide) ?_
        refine o_iconst X194_3 hx (hb hby at_204) (v := (0 : Int32)) rfl rfl ?_
        refine o_icmpYes X194_3 hx (hb hby at_205) (teq (by decide)).1 (by decide) (pc' := 210) (by decide) ?_
        refine o_iload X194_3 hx (hb hby at_210) rfl rfl ?_
        refine o_ifYes X194_3 hx (hb hby at_212) ((if0 _ _).trans (teq (by decide)).1) (by decide) (pc' := 230) (by decide) ?_
        refine o_iconst X194_3 hx (hb hby at_230) (v := (1 : Int32)) rfl rfl ?_
        exact o_retH X194_3 hx hlk (t := .boolean) hret rfl (Or.inl ⟨rfl, by decide, _, rfl⟩) (hb hby at_231) (by decide) (by decide) e194_6 hZ169_3 (own_EW hw) B169_3 ⟨rfl, N194_3, KK169_3_h0⟩
    ·
      refine o_ifNo X30 hx (hb hby at_45) ((if0 _ _).trans (feq hc45).1) rfl ?_
      refine o_iconst X30 hx (hb hby at_48) (v := (1 : Int32)) rfl rfl ?_
      refine o_goto X30 hx (hb hby at_49) (by decide) (pc' := 53) (by decide) ?_
      refine o_istore X30 hx (hb hby at_53) (L' := #[.val (.int p0), .val (.int p1), .val (.int p2), .val (.int p3), .val (.int (0 : Int32)), .unset, .val (.ref b26), .val (.int ((p1 &&& (3 : Int32)) % (3 : Int32))), .val (.int (1 : Int32)), .unset, .unset, .unset, .unset]) rfl rfl ?_
      refine o_iload X30 hx (hb hby at_55) rfl rfl ?_
      refine o_ifNo X30 hx (hb hby at_57) ((if0 _ _).trans (feq (by decide)).1) rfl ?_
      refine o_getS X30 hx hZ hown (host := "") (Or.inl (wd26 hw)) Via.refl e30 (Sta.ext OK30.2 S_TOKEN) (hb hby at_60) rfl fun T60 X60 e60 => ?_
      refine o_goto X60 hx (hb hby at_63) (by decide) (pc' := 69) (by decide) ?_
      refine o_astore X60 hx (hb hby at_69) rfl (L' := #[.val (.int p0), .val (.int p1), .val (.int p2), .val (.int p3), .val (.int (0 : Int32)), .unset, .val (.ref b26), .val (.int ((p1 &&& (3 : Int32)) % (3 : Int32))), .val (.int (1 : Int32)), .val (.ref tk), .unset, .unset, .unset]) rfl rfl ?_
      refine o_iload X60 hx (hb hby at_71) rfl rfl ?_
      refine o_ifNo X60 hx (hb hby at_73) ((if0 _ _).trans (feq (by decide)).1) rfl ?_
      refine o_getS X60 hx hZ hown (host := "") (Or.inl (wd29 hw)) Via.refl e60 (Sta.ext OK30.2 S_USER) (hb hby at_76) rfl fun T76 X76 e76 => ?_
      refine o_goto X76 hx (hb hby at_79) (by decide) (pc' := 85) (by decide) ?_
      refine o_astore X76 hx (hb hby at_85) rfl (L' := #[.val (.int p0), .val (.int p1), .val (.int p2), .val (.int p3), .val (.int (0 : Int32)), .unset, .val (.ref b26), .val (.int ((p1 &&& (3 : Int32)) % (3 : Int32))), .val (.int (1 : Int32)), .val (.ref tk), .val (.ref us), .unset, .unset]) rfl rfl ?_
      refine o_iloadN X76 hx (hb hby at_87) rfl rfl ?_
      refine o_iloadN X76 hx (hb hby at_88) rfl rfl ?_
      refine o_bipush X76 hx (hb hby at_89) (v := (24 : Int32)) rfl rfl ?_
      refine o_iushr X76 hx (hb hby at_91) rfl ?_
      refine o_staticF X76 hx hZ hown (wd31 hw) (wd32 hw) (by decide) (rm5 l Z a0 hw p3 (((p3.toUInt32 >>> ((24 : Int32) &&& 31).toUInt32).toInt32)) cs h30 n0 OK30 S_COMPACT_STRINGS hcs) (wd34 hw) (wd33 hw) e76 BK30 (own_EW hw) sl0 sl0 (by rw [hml]; rfl) (argsL := [(.int p3), (.int ((p3.toUInt32 >>> ((24 : Int32) &&& 31).toUInt32).toInt32))]) (rest := []) (W := 0) pd17 rfl rfl rfl rfl (hb hby at_92) (by decide) (by decide) (by decide) (by decide) (cells' := 7) (slots' := 15) rfl rfl rfl fun v92_2 s92_2 T92_2 h92_2 Lc92_2 X92_2 e92_2 B92_2 hZ92_2 hown92_2 hS92_2 hq92_2 => ?_
      obtain ⟨b_92_2, rfl, N92q_2, K92_2, hb_92_2, qE_92_2⟩ := hq92_2
      have N92_2 := Fr.app N30 N92q_2
      have s_b_92_2_h0 : h0.size ≤ b_92_2 := Nat.le_trans KK30_h0.1 hb_92_2
      have n_b_92_2 : n0 ≤ b_92_2 := Nat.le_trans (OK30.1 ▸ OK30.2.1) hb_92_2
      have KK92_2_h0 : Keep h0 h92_2 [] := KK30_h0.trans K92_2 all0
      have OK92_2 : Old Z n0 h92_2 := OK30.keep K92_2 all0
      have sf_b26_23 := hS92_2 b26 qE_30.lt sf_b26_2
      show Goes p.tables e below (EndsH Z consts_1 s h0 (Q0 Z p0 p1 p2 p3 cs de kd el ea ke mo em mp tk us h0 n0) room_1.cells room_1.slots) (T92_2.setTop (mkF m 95 #[.val (.int p0), .val (.int p1), .val (.int p2), .val (.int p3), .val (.int (0 : Int32)), .unset, .val (.ref b26), .val (.int ((p1 &&& (3 : Int32)) % (3 : Int32))), .val (.int (1 : Int32)), .val (.ref tk), .val (.ref us), .unset, .unset] [(.ref b_92_2)]))
      refine o_astore X92_2 hx (hb hby at_95) rfl (L' := #[.val (.int p0), .val (.int p1), .val (.int p2), .val (.int p3), .val (.int (0 : Int32)), .unset, .val (.ref b26), .val (.int ((p1 &&& (3 : Int32)) % (3 : Int32))), .val (.int (1 : Int32)), .val (.ref tk), .val (.ref us), .val (.ref b_92_2), .unset]) rfl rfl ?_
      refine o_iloadN X92_2 hx (hb hby at_97) rfl rfl ?_
      refine o_bipush X92_2 hx (hb hby at_98) (v := (8 : Int32)) rfl rfl ?_
      refine o_iushr X92_2 hx (hb hby at_100) rfl ?_
      refine o_iloadN X92_2 hx (hb hby at_101) rfl rfl ?_
      refine o_bipush X92_2 hx (hb hby at_102) (v := (26 : Int32)) rfl rfl ?_
      refine o_iushr X92_2 hx (hb hby at_104) rfl ?_
      have fE105_2 : Exa Z h92_2 b26 "java/util/ArrayList" := (qE_30.keep K92_2)
      refine o_staticF X92_2 hx hZ92_2 hown92_2 (wd31 hw) (wd32 hw) (by decide) (rm5 l Z a0 hw (((p2.toUInt32 >>> ((8 : Int32) &&& 31).toUInt32).toInt32)) (((p3.toUInt32 >>> ((26 : Int32) &&& 31).toUInt32).toInt32)) cs h92_2 n0 OK92_2 S_COMPACT_STRINGS hcs) (wd34 hw) (wd33 hw) e92_2 B92_2 (own_EW hw) sl0 sl0 (by rw [hml]; rfl) (argsL := [(.int ((p2.toUInt32 >>> ((8 : Int32) &&& 31).toUInt32).toInt32)), (.int ((p3.toUInt32 >>> ((26 : Int32) &&& 31).toUInt32).toInt32))]) (rest := []) (W := 0) pd17 rfl rfl rfl rfl (hb hby at_105) (by decide) (by decide) (by decide) (by decide) (cells' := 13) (slots' := 27) rfl rfl rfl fun v105_2 s105_2 T105_2 h105_2 Lc105_2 X105_2 e105_2 B105_2 hZ105_2 hown105_2 hS105_2 hq105_2 => ?_
      obtain ⟨b_105_2, rfl, N105q_2, K105_2, hb_105_2, qE_105_2⟩ := hq105_2
      have N105_2 := Fr.app N92_2 N105q_2
      have s_b_105_2_h0 : h0.size ≤ b_105_2 := Nat.le_trans KK92_2_h0.1 hb_105_2
      have n_b_105_2 : n0 ≤ b_105_2 := Nat.le_trans (OK92_2.1 ▸ OK92_2.2.1) hb_105_2
      have KK105_2_h0 : Keep h0 h105_2 [] := KK92_2_h0.trans K105_2 all0
      have OK105_2 : Old Z n0 h105_2 := OK92_2.keep K105_2 all0
      have sf_b26_24 := hS105_2 b26 fE105_2.lt sf_b26_23
      show Goes p.tables e below (EndsH Z consts_1 s h0 (Q0 Z p0 p1 p2 p3 cs de kd el ea ke mo em mp tk us h0 n0) room_1.cells room_1.slots) (T105_2.setTop (mkF m 108 #[.val (.int p0), .val (.int p1), .val (.int p2), .val (.int p3), .val (.int (0 : Int32)), .unset, .val (.ref b26), .val (.int ((p1 &&& (3 : Int32)) % (3 : Int32))), .val (.int (1 : Int32)), .val (.ref tk), .val (.ref us), .val (.ref b_92_2), .unset] [(.ref b_105_2)]))
      refine o_astore X105_2 hx (hb hby at_108) rfl (L' := #[.val (.int p0), .val (.int p1), .val (.int p2), .val (.int p3), .val (.int (0 : Int32)), .unset, .val (.ref b26), .val (.int ((p1 &&& (3 : Int32)) % (3 : Int32))), .val (.int (1 : Int32)), .val (.ref tk), .val (.ref us), .val (.ref b_92_2), .val (.ref b_105_2)]) rfl rfl ?_
      rcases own_cnt3 p1 with hn3 | hn3 | hn3
      ·
        refine o_locs (L' := #[.val (.int p0), .val (.int p1), .val (.int p2), .val (.int p3), .val (.int (0 : Int32)), .unset, .val (.ref b26), .val (.int (0 : Int32)), .val (.int (1 : Int32)), .val (.ref tk), .val (.ref us), .val (.ref b_92_2), .val (.ref b_105_2)]) (by rw [hn3]) ?_
        refine o_iload X105_2 hx (hb hby at_110) rfl rfl ?_
        refine o_iconst X105_2 hx (hb hby at_112) (v := (1 : Int32)) rfl rfl ?_
        refine o_icmpYes X105_2 hx (hb hby at_113) (tlt (by decide)).1 (by decide) (pc' := 133) (by decide) ?_
        refine o_iload X105_2 hx (hb hby at_133) rfl rfl ?_
        refine o_iconst X105_2 hx (hb hby at_135) (v := (2 : Int32)) rfl rfl ?_
        refine o_icmpYes X105_2 hx (hb hby at_136) (tlt (by decide)).1 (by decide) (pc' := 156) (by decide) ?_
        refine o_new X105_2 hx hZ105_2 hown105_2 (wd55 hw) (wd56 hw) (wd57 hw) e105_2 (hb hby at_156) (by decide) (by decide) (cells' := 14) (slots' := 29) rfl rfl rfl fun T156_4 h156_4 b156_4 g156_4 X156_4 e156_4 E156_4 A156_4 D156_4 => ?_
        have s_b156_4_h0 : h0.size ≤ b156_4 := Nat.le_trans KK105_2_h0.1 (Nat.le_of_eq g156_4.symm)
        have n_b156_4 : n0 ≤ b156_4 := Nat.le_trans (OK105_2.1 ▸ OK105_2.2.1) (Nat.le_of_eq g156_4.symm)
        have KE156_4_h0 : Keep h0 h156_4 [] := KK105_2_h0.ext E156_4
        have OE156_4 : Old Z n0 h156_4 := OK105_2.ext E156_4
        have BE156_4 : HB Z consts_1 s s105_2 h0 h156_4 := B105_2.ext E156_4
        have sf_b26_25 : Safe Z consts_1 s105_2.vm h156_4 b26 := own_sfE B105_2.ch E156_4 sf_b26_24
        have sf_b156_4 : Safe Z consts_1 s105_2.vm h156_4 b156_4 := own_sfE B105_2.ch E156_4 (Safe.new (Z := Z) (EL := consts_1) (vm := s105_2.vm) (Nat.le_of_eq g156_4.symm))
        have Fb156_4_events : Fld Z h156_4 b156_4 "com/example/hybrev/hybrev/EventPage" "events" "Ljava/util/List;" .null := D156_4 (Or.inr (wd92 hw)) (ty := (.object "java/util/List")) (by decide)
        have Fb156_4_next : Fld Z h156_4 b156_4 "com/example/hybrev/hybrev/EventPage" "next" "Ljava/lang/String;" .null := D156_4 (Or.inr (wd100 hw)) (ty := (.object "java/lang/String")) (by decide)
        refine o_dup X156_4 hx (hb hby at_159) rfl rfl ?_
        refine o_aload X156_4 hx (hb hby at_160) rfl rfl rfl ?_
        refine o_iloadN X156_4 hx (hb hby at_162) rfl rfl ?_
        refine o_iloadN X156_4 hx (hb hby at_163) rfl rfl ?_
        refine o_iconst X156_4 hx (hb hby at_164) (v := (2 : Int32)) rfl rfl ?_
        refine o_iushr X156_4 hx (hb hby at_165) rfl ?_
        have fE166_9 : Exa Z h156_4 b26 "java/util/ArrayList" := ((fE105_2.keep K105_2).ext E156_4)
        refine o_staticF X156_4 hx hZ105_2 hown105_2 (wd31 hw) (wd32 hw) (by decide) (rm5 l Z a0 hw p2 (((p1.toUInt32 >>> ((2 : Int32) &&& 31).toUInt32).toInt32)) cs h156_4 n0 OE156_4 S_COMPACT_STRINGS hcs) (wd34 hw) (wd33 hw) e156_4 BE156_4 (own_EW hw) sl0 sl0 (by rw [hml]; rfl) (argsL := [(.int p2), (.int ((p1.toUInt32 >>> ((2 : Int32) &&& 31).toUInt32).toInt32))]) (rest := [(.ref b26), (.ref b156_4), (.ref b156_4)]) (W := 3) pd17 rfl rfl rfl rfl (hb hby at_166) (by decide) (by decide) (by decide) (by decide) (cells' := 20) (slots' := 41) rfl rfl rfl fun v166_4 s166_4 T166_4 h166_4 Lc166_4 X166_4 e166_4 B166_4 hZ166_4 hown166_4 hS166_4 hq166_4 => ?_
        obtain ⟨b_166_4, rfl, N166q_4, K166_4, hb_166_4, qE_166_4⟩ := hq166_4
        have N166_4 := Fr.app N105_2 N166q_4
        have s_b_166_4_h0 : h0.size ≤ b_166_4 := Nat.le_trans KE156_4_h0.1 hb_166_4
        have n_b_166_4 : n0 ≤ b_166_4 := Nat.le_trans (OE156_4.1 ▸ OE156_4.2.1) hb_166_4
        have KK166_4_h0 : Keep h0 h166_4 [] := KE156_4_h0.trans K166_4 all0
        have OK166_4 : Old Z n0 h166_4 := OE156_4.keep K166_4 all0
        have sf_b26_26 := hS166_4 b26 fE166_9.lt sf_b26_25
        have sf_b156_4_2 := hS166_4 b156_4 A156_4.lt sf_b156_4
        show Goes p.tables e below (EndsH Z consts_1 s h0 (Q0 Z p0 p1 p2 p3 cs de kd el ea ke mo em mp tk us h0 n0) room_1.cells room_1.slots) (T166_4.setTop (mkF m 169 #[.val (.int p0), .val (.int p1), .val (.int p2), .val (.int p3), .val (.int (0 : Int32)), .unset, .val (.ref b26), .val (.int (0 : Int32)), .val (.int (1 : Int32)), .val (.ref tk), .val (.ref us), .val (.ref b_92_2), .val (.ref b_105_2)] [(.ref b_166_4), (.ref b26), (.ref b156_4), (.ref b156_4)]))
        have fE169_12 : Exa Z h166_4 b156_4 "com/example/hybrev/hybrev/EventPage" := (A156_4.keep K166_4)
        have fF169_12 : Fld Z h166_4 b156_4 "com/example/hybrev/hybrev/EventPage" "events" "Ljava/util/List;" .null := (Fb156_4_events.keep K166_4 nin0)
        have fF169_13 : Fld Z h166_4 b156_4 "com/example/hybrev/hybrev/EventPage" "next" "Ljava/lang/String;" .null := (Fb156_4_next.keep K166_4 nin0)
        have fE169_13 : Exa Z h166_4 b26 "java/util/ArrayList" := (fE166_9.keep K166_4)
        have fF169_14 : Fld Z h166_4 b26 "java/util/ArrayList" "size" "I" (.int (0 : Int32)) := ((((qF_30_2.keep K92_2 nin0).keep K105_2 nin0).ext E156_4).keep K166_4 nin0)
        refine o_specialF X166_4 hx hZ166_4 rfl rfl hown166_4 (wd58 hw) (wd59 hw) (by decide) (a := b156_4) (rmepi0 l Z a0 hw b156_4 b_166_4 b26 el h166_4 n0 OK166_4 fE169_12 fF169_12 fF169_13 qE_166_4 fE169_13 fF169_14 S_EMPTY_LIST n_b156_4 (Ne.symm (Nat.ne_of_lt (Nat.lt_of_lt_of_le ((qF_30_3.keep K92_2 nin0).keep K105_2 nin0).lt (Nat.le_of_eq g156_4.symm))))) (wd60 hw) (wd57 hw) e166_4 B166_4 (own_EW hw) (slS fE169_12.lt sl0) (slS sf_b156_4_2 sl0) (by rw [hml]; rfl) (argsL := [(.ref b26), (.ref b_166_4)]) (rest := [(.ref b156_4)]) (W := 1) pd18 rfl rfl rfl rfl (hb hby at_169) (by decide) (by decide) (by decide) (by decide) (cells' := 22) (slots' := 61) rfl rfl rfl fun v169_4 s169_4 T169_4 h169_4 Lc169_4 X169_4 e169_4 B169_4 hZ169_4 hown169_4 hS169_4 hq169_4 => ?_
        obtain ⟨rfl, N169q_4, K169_4, qE_169_4, qF_169_4⟩ := hq169_4
        have N169_4 := Fr.app N166_4 N169q_4
        have KK169_4_h0 : Keep h0 h169_4 [] := KK166_4_h0.trans K169_4 (allS (Or.inr s_b156_4_h0) all0)
        have OK169_4 : Old Z n0 h169_4 := OK166_4.keep K169_4 (allS n_b156_4 all0)
        have sf_b26_27 := hS169_4 b26 fE169_13.lt sf_b26_26
        have sf_b156_4_3 := hS169_4 b156_4 fE169_12.lt sf_b156_4_2
        show Goes p.tables e below (EndsH Z consts_1 s h0 (Q0 Z p0 p1 p2 p3 cs de kd el ea ke mo em mp tk us h0 n0) room_1.cells room_1.slots) (T169_4.setTop (mkF m 172 #[.val (.int p0), .val (.int p1), .val (.int p2), .val (.int p3), .val (.int (0 : Int32)), .unset, .val (.ref b26), .val (.int (0 : Int32)), .val (.int (1 : Int32)), .val (.ref tk), .val (.ref us), .val (.ref b_92_2), .val (.ref b_105_2)] [(.ref b156_4)]))
        refine o_astore X169_4 hx (hb hby at_172) rfl (L' := #[.val (.int p0), .val (.int p1), .val (.int p2), .val (.int p3), .val (.int (0 : Int32)), .val (.ref b156_4), .val (.ref b26), .val (.int (0 : Int32)), .val (.int (1 : Int32)), .val (.ref tk), .val (.ref us), .val (.ref b_92_2), .val (.ref b_105_2)]) rfl rfl ?_
        refine o_aload X169_4 hx (hb hby at_174) rfl rfl rfl ?_
        refine o_virtual X169_4 hx hZ169_4 (C := "com/example/hybrev/hybrev/EventPage") hown169_4 (wd101 hw) (wd102 hw) (notFace_of_selects (args := #[]) (mvT hZ169_4 (wd104 hw))) (wd104 hw) (wd103 hw) (by decide) qE_169_4 (rmimR l Z a0 hw b156_4 b_166_4 h169_4 n0 OK169_4 qF_169_4) (wd105 hw) (wd57 hw) e169_4 (by rw [hml]; rfl) (argsL := []) (rest := []) (W := 0) pd12 rfl rfl rfl rfl (hb hby at_176) (by decide) (by decide) (by decide) (by decide) (cells' := 22) (slots' := 61) rfl rfl rfl fun v176_4 T176_4 h176_4 Lc176_4 X176_4 e176_7 hq176_4 => ?_
        obtain ⟨rfl, N176q_4, K176_4⟩ := hq176_4
        have N176_4 := Fr.app N169_4 N176q_4
        have e176_8 : T176_4.heap = h169_4 := e176_7.trans K176_4
        show Goes p.tables e below (EndsH Z consts_1 s h0 (Q0 Z p0 p1 p2 p3 cs de kd el ea ke mo em mp tk us h0 n0) room_1.cells room_1.slots) (T176_4.setTop (mkF m 179 #[.val (.int p0), .val (.int p1), .val (.int p2), .val (.int p3), .val (.int (0 : Int32)), .val (.ref b156_4), .val (.ref b26), .val (.int (0 : Int32)), .val (.int (1 : Int32)), .val (.ref tk), .val (.ref us), .val (.ref b_92_2), .val (.ref b_105_2)] [(.int (0 : Int32))]))
        refine o_istore X176_4 hx (hb hby at_179) (L' := #[.val (.int p0), .val (.int p1), .val (.int p2), .val (.int p3), .val (.int (0 : Int32)), .val (.ref b156_4), .val (.int (0 : Int32)), .val (.int (0 : Int32)), .val (.int (1 : Int32)), .val (.ref tk), .val (.ref us), .val (.ref b_92_2), .val (.ref b_105_2)]) rfl rfl ?_
        refine o_iload X176_4 hx (hb hby at_181) rfl rfl ?_
        refine o_iload X176_4 hx (hb hby at_183) rfl rfl ?_
        refine o_icmpYes X176_4 hx (hb hby at_185) (teq (by decide)).1 (by decide) (pc' := 190) (by decide) ?_
        refine o_iload X176_4 hx (hb hby at_190) rfl rfl ?_
        refine o_aload X176_4 hx (hb hby at_192) rfl rfl rfl ?_
        refine o_virtual X176_4 hx hZ169_4 (C := "com/example/hybrev/hybrev/EventPage") hown169_4 (wd106 hw) (wd107 hw) (notFace_of_selects (args := #[]) (mvT hZ169_4 (wd109 hw))) (wd109 hw) (wd108 hw) (by decide) qE_169_4 (rmgnR l Z a0 hw b156_4 b_166_4 h169_4 n0 OK169_4 qF_169_4) (wd110 hw) (wd57 hw) e176_8 (by rw [hml]; rfl) (argsL := []) (rest := [(.int (0 : Int32))]) (W := 1) pd19 rfl rfl rfl rfl (hb hby at_194) (by decide) (by decide) (by decide) (by decide) (cells' := 22) (slots' := 61) rfl rfl rfl fun v194_4 T194_4 h194_4 Lc194_4 X194_4 e194_7 hq194_4 => ?_
        obtain ⟨rfl, N194q_4, K194_4⟩ := hq194_4
        have N194_4 := Fr.app N176_4 N194q_4
        have e194_8 : T194_4.heap = h169_4 := e194_7.trans K194_4
        show Goes p.tables e below (EndsH Z consts_1 s h0 (Q0 Z p0 p1 p2 p3 cs de kd el ea ke mo em mp tk us h0 n0) room_1.cells room_1.slots) (T194_4.setTop (mkF m 197 #[.val (.int p0), .val (.int p1), .val (.int p2), .val (.int p3), .val (.int (0 : Int32)), .val (.ref b156_4), .val (.int (0 : Int32)), .val (.int (0 : Int32)), .val (.int (1 : Int32)), .val (.ref tk), .val (.ref us), .val (.ref b_92_2), .val (.ref b_105_2)] [(.ref b_166_4), (.int (0 : Int32))]))
        refine o_ifnonnullYes X194_4 hx (hb hby at_197) (by decide) (pc' := 204) (by decide) ?_
        refine o_iconst X194_4 hx (hb hby at_204) (v := (0 : Int32)) rfl rfl ?_
        refine o_icmpYes X194_4 hx (hb hby at_205) (teq (by decide)).1 (by decide) (pc' := 210) (by decide) ?_
        refine o_iload X194_4 hx (hb hby at_210) rfl rfl ?_
        refine o_ifYes X194_4 hx (hb hby at_212) ((if0 _ _).trans (teq (by decide)).1) (by decide) (pc' := 230) (by decide) ?_
        refine o_iconst X194_4 hx (hb hby at_230) (v := (1 : Int32)) rfl rfl ?_
        exact o_retH X194_4 hx hlk (t := .boolean) hret rfl (Or.inl ⟨rfl, by decide, _, rfl⟩) (hb hby at_231) (by decide) (by decide) e194_8 hZ169_4 (own_EW hw) B169_4 ⟨rfl, N194_4, KK169_4_h0⟩
      ·
        refine o_locs (L' := #[.val (.int p0), .val (.int p1), .val (.int p2), .val (.int p3), .val (.int (0 : Int32)), .unset, .val (.ref b26), .val (.int (1 : Int32)), .val (.int (1 : Int32)), .val (.ref tk), .val (.ref us), .val (.ref b_92_2), .val (.ref b_105_2)]) (by rw [hn3]) ?_
        refine o_iload X105_2 hx (hb hby at_110) rfl rfl ?_
        refine o_iconst X105_2 hx (hb hby at_112) (v := (1 : Int32)) rfl rfl ?_
        refine o_icmpNo X105_2 hx (hb hby at_113) (flt (by decide)).1 rfl ?_
        refine o_aload X105_2 hx (hb hby at_116) rfl rfl rfl ?_
        refine o_new X105_2 hx hZ105_2 hown105_2 (wd144 hw) (wd145 hw) (wd146 hw) e105_2 (hb hby at_118) (by decide) (by decide) (cells' := 14) (slots' := 29) rfl rfl rfl fun T118_3 h118_3 b118_3 g118_3 X118_3 e118_3 E118_3 A118_3 D118_3 => ?_
        have s_b118_3_h0 : h0.size ≤ b118_3 := Nat.le_trans KK105_2_h0.1 (Nat.le_of_eq g118_3.symm)
        have n_b118_3 : n0 ≤ b118_3 := Nat.le_trans (OK105_2.1 ▸ OK105_2.2.1) (Nat.le_of_eq g118_3.symm)
        have KE118_3_h0 : Keep h0 h118_3 [] := KK105_2_h0.ext E118_3
        have OE118_3 : Old Z n0 h118_3 := OK105_2.ext E118_3
        have BE118_3 : HB Z consts_1 s s105_2 h0 h118_3 := B105_2.ext E118_3
        have sf_b26_28 : Safe Z consts_1 s105_2.vm h118_3 b26 := own_sfE B105_2.ch E118_3 sf_b26_24
        have sf_b118_3_2 : Safe Z consts_1 s105_2.vm h118_3 b118_3 := own_sfE B105_2.ch E118_3 (Safe.new (Z := Z) (EL := consts_1) (vm := s105_2.vm) (Nat.le_of_eq g118_3.symm))
        have Fb118_3_kind : Fld Z h118_3 b118_3 "com/example/hybrev/hybrev/RevocationEvent" "kind" "Lcom/example/hybrev/hybrev/RevocationEvent$Kind;" .null := D118_3 (Or.inr (wd152 hw)) (ty := (.object "com/example/hybrev/hybrev/RevocationEvent$Kind")) (by decide)
        have Fb118_3_id : Fld Z h118_3 b118_3 "com/example/hybrev/hybrev/RevocationEvent" "id" "Ljava/lang/String;" .null := D118_3 (Or.inr (wd154 hw)) (ty := (.object "java/lang/String")) (by decide)
        refine o_dup X118_3 hx (hb hby at_121) rfl rfl ?_
        refine o_aload X118_3 hx (hb hby at_122) rfl rfl rfl ?_
        refine o_aload X118_3 hx (hb hby at_124) rfl rfl rfl ?_
        refine o_special X118_3 hx hZ105_2 rfl rfl hown105_2 (wd147 hw) (wd148 hw) (by decide) (a := b118_3) (rm22 l Z a0 hw b118_3 tk b_92_2 h118_3 n0 OE118_3 A118_3 Fb118_3_kind Fb118_3_id n_b118_3) (wd149 hw) (wd146 hw) e118_3 (by rw [hml]; rfl) (argsL := [(.ref tk), (.ref b_92_2)]) (rest := [(.ref b118_3), (.ref b26)]) (W := 2) pd20 rfl rfl rfl rfl (hb hby at_126) (by decide) (by decide) (by decide) (by decide) (cells' := 14) (slots' := 29) rfl rfl rfl fun v126_3 T126_3 h126_3 Lc126_3 X126_3 e126_3 hq126_3 => ?_
        obtain ⟨rfl, N126q_3, K126_3, qE_126_3⟩ := hq126_3
        have N126_3 := Fr.app N105_2 N126q_3
        have KK126_3_h0 : Keep h0 h126_3 [] := KE118_3_h0.trans K126_3 (allS (Or.inr s_b118_3_h0) all0)
        have OK126_3 : Old Z n0 h126_3 := OE118_3.keep K126_3 (allS n_b118_3 all0)
        have BK126_3 : HB Z consts_1 s s105_2 h0 h126_3 := BE118_3.keep K126_3 (slS sf_b118_3_2 sl0)
        have sf_b26_29 : Safe Z consts_1 s105_2.vm h126_3 b26 := own_sfK BE118_3.ch K126_3 (slS sf_b118_3_2 sl0) sf_b26_28
        have sf_b118_3_3 : Safe Z consts_1 s105_2.vm h126_3 b118_3 := own_sfK BE118_3.ch K126_3 (slS sf_b118_3_2 sl0) sf_b118_3_2
        show Goes p.tables e below (EndsH Z consts_1 s h0 (Q0 Z p0 p1 p2 p3 cs de kd el ea ke mo em mp tk us h0 n0) room_1.cells room_1.slots) (T126_3.setTop (mkF m 129 #[.val (.int p0), .val (.int p1), .val (.int p2), .val (.int p3), .val (.int (0 : Int32)), .unset, .val (.ref b26), .val (.int (1 : Int32)), .val (.int (1 : Int32)), .val (.ref tk), .val (.ref us), .val (.ref b_92_2), .val (.ref b_105_2)] [(.ref b118_3), (.ref b26)]))
        have fE129_5 : Exa Z h126_3 b26 "java/util/ArrayList" := (((fE105_2.keep K105_2).ext E118_3).keep K126_3)
        have fF129_7 : Fld Z h126_3 b26 "java/util/ArrayList" "elementData" "[Ljava/lang/Object;" (.ref de) := ((((qF_30.keep K92_2 nin0).keep K105_2 nin0).ext E118_3).keep K126_3 (ninS (Nat.ne_of_lt (Nat.lt_of_lt_of_le ((qF_30_3.keep K92_2 nin0).keep K105_2 nin0).lt (Nat.le_of_eq g118_3.symm))) nin0))
        have fF129_8 : Fld Z h126_3 b26 "java/util/ArrayList" "size" "I" (.int (0 : Int32)) := ((((qF_30_2.keep K92_2 nin0).keep K105_2 nin0).ext E118_3).keep K126_3 (ninS (Nat.ne_of_lt (Nat.lt_of_lt_of_le ((qF_30_3.keep K92_2 nin0).keep K105_2 nin0).lt (Nat.le_of_eq g118_3.symm))) nin0))
        have fF129_9 : Fld Z h126_3 b26 "java/util/AbstractList" "modCount" "I" (.int (0 : Int32)) := ((((qF_30_3.keep K92_2 nin0).keep K105_2 nin0).ext E118_3).keep K126_3 (ninS (Nat.ne_of_lt (Nat.lt_of_lt_of_le ((qF_30_3.keep K92_2 nin0).keep K105_2 nin0).lt (Nat.le_of_eq g118_3.symm))) nin0))
        have fE129_6 : Exa Z h126_3 de "[Ljava/lang/Object;" := (((((fE30.keep K30).keep K92_2).keep K105_2).ext E118_3).keep K126_3)
        have fA129_3 : Arv Z h126_3 de kd (.object "java/lang/Object") (0 : Int32) [] .null := (((((fA30.keep K30 (ninS (Nat.ne_of_lt (Nat.lt_of_lt_of_le E_de.lt (Nat.le_of_eq g26.symm))) nin0)).keep K92_2 nin0).keep K105_2 nin0).ext E118_3).keep K126_3 (ninS (Nat.ne_of_lt (Nat.lt_of_lt_of_le (((fA30.keep K30 (ninS (Nat.ne_of_lt (Nat.lt_of_lt_of_le E_de.lt (Nat.le_of_eq g26.symm))) nin0)).keep K92_2 nin0).keep K105_2 nin0).lt (Nat.le_of_eq g118_3.symm))) nin0))
        refine o_virtual X126_3 hx hZ105_2 (C := "java/util/ArrayList") hown105_2 (wd155 hw) (wd156 hw) (notFace_of_selects (args := #[]) (mvT hZ105_2 (wd158 hw))) (wd158 hw) (wd157 hw) (by decide) fE129_5 (rmad0 l Z a0 hw b26 ((0 : Int32)) de kd b118_3 h126_3 n0 OK126_3 fE129_5 fF129_7 fF129_8 fF129_9 S_DEFAULTCAPACITY_EMPTY_ELEMENTDATA fE129_6 fA129_3 n_b26 qE_126_3) (wd159 hw) (wd2 hw) e126_3 (by rw [hml]; rfl) (argsL := [(.ref b118_3)]) (rest := []) (W := 0) pd21 rfl rfl rfl rfl (hb hby at_129) (by decide) (by decide) (by decide) (by decide) (cells' := 15) (slots' := 39) rfl rfl rfl fun v129_3 T129_3 h129_3 Lc129_3 X129_3 e129_3 hq129_3 => ?_
        obtain ⟨b_129_3, k_129_3, rfl, N129q_3, K129_3, hb_129_3, qE_129_5, qE_129_6, qF_129_7, qF_129_8, qF_129_9, qA_129_3, hO_129_3⟩ := hq129_3
        have N129_3 := Fr.app N126_3 N129q_3
        have s_b_129_3_h0 : h0.size ≤ b_129_3 := Nat.le_trans KK126_3_h0.1 hb_129_3
        have n_b_129_3 : n0 ≤ b_129_3 := Nat.le_trans (OK126_3.1 ▸ OK126_3.2.1) hb_129_3
        have KK129_3_h0 : Keep h0 h129_3 [] := KK126_3_h0.trans K129_3 (allS (Or.inr s_b26_h0) all0)
        have OK129_3 : Old Z n0 h129_3 := OK126_3.keep K129_3 (allS n_b26 all0)
        have BK129_3 : HB Z consts_1 s s105_2 h0 h129_3 := BK126_3.keep K129_3 (slS sf_b26_29 sl0)
        have sf_b26_30 : Safe Z consts_1 s105_2.vm h129_3 b26 := own_sfK BK126_3.ch K129_3 (slS sf_b26_29 sl0) sf_b26_29
        have sf_b118_3_4 : Safe Z consts_1 s105_2.vm h129_3 b118_3 := own_sfK BK126_3.ch K129_3 (slS sf_b26_29 sl0) sf_b118_3_3
        have sf_b_129_3_2 : Safe Z consts_1 s105_2.vm h129_3 b_129_3 := own_sfK BK126_3.ch K129_3 (slS sf_b26_29 sl0) (Safe.new (Z := Z) (EL := consts_1) (vm := s105_2.vm) hb_129_3)
        show Goes p.tables e below (EndsH Z consts_1 s h0 (Q0 Z p0 p1 p2 p3 cs de kd el ea ke mo em mp tk us h0 n0) room_1.cells room_1.slots) (T129_3.setTop (mkF m 132 #[.val (.int p0), .val (.int p1), .val (.int p2), .val (.int p3), .val (.int (0 : Int32)), .unset, .val (.ref b26), .val (.int (1 : Int32)), .val (.int (1 : Int32)), .val (.ref tk), .val (.ref us), .val (.ref b_92_2), .val (.ref b_105_2)] [(.int (1 : Int32))]))
        refine o_pop X129_3 hx (hb hby at_132) rfl rfl ?_
        refine o_iload X129_3 hx (hb hby at_133) rfl rfl ?_
        refine o_iconst X129_3 hx (hb hby at_135) (v := (2 : Int32)) rfl rfl ?_
        refine o_icmpYes X129_3 hx (hb hby at_136) (tlt (by decide)).1 (by decide) (pc' := 156) (by decide) ?_
        refine o_new X129_3 hx hZ105_2 hown105_2 (wd55 hw) (wd56 hw) (wd57 hw) e129_3 (hb hby at_156) (by decide) (by decide) (cells' := 16) (slots' := 41) rfl rfl rfl fun T156_5 h156_5 b156_5 g156_5 X156_5 e156_5 E156_5 A156_5 D156_5 => ?_
        have s_b156_5_h0 : h0.size ≤ b156_5 := Nat.le_trans KK129_3_h0.1 (Nat.le_of_eq g156_5.symm)
        have n_b156_5 : n0 ≤ b156_5 := Nat.le_trans (OK129_3.1 ▸ OK129_3.2.1) (Nat.le_of_eq g156_5.symm)
        have KE156_5_h0 : Keep h0 h156_5 [] := KK129_3_h0.ext E156_5
        have OE156_5 : Old Z n0 h156_5 := OK129_3.ext E156_5
        have BE156_5 : HB Z consts_1 s s105_2 h0 h156_5 := BK129_3.ext E156_5
        have sf_b26_31 : Safe Z consts_1 s105_2.vm h156_5 b26 := own_sfE BK129_3.ch E156_5 sf_b26_30
        have sf_b118_3_5 : Safe Z consts_1 s105_2.vm h156_5 b118_3 := own_sfE BK129_3.ch E156_5 sf_b118_3_4
        have sf_b_129_3_3 : Safe Z consts_1 s105_2.vm h156_5 b_129_3 := own_sfE BK129_3.ch E156_5 sf_b_129_3_2
        have sf_b156_5 : Safe Z consts_1 s105_2.vm h156_5 b156_5 := own_sfE BK129_3.ch E156_5 (Safe.new (Z := Z) (EL := consts_1) (vm := s105_2.vm) (Nat.le_of_eq g156_5.symm))
        have Fb156_5_events : Fld Z h156_5 b156_5 "com/example/hybrev/hybrev/EventPage" "events" "Ljava/util/List;" .null := D156_5 (Or.inr (wd92 hw)) (ty := (.object "java/util/List")) (by decide)
        have Fb156_5_next : Fld Z h156_5 b156_5 "com/example/hybrev/hybrev/EventPage" "next" "Ljava/lang/String;" .null := D156_5 (Or.inr (wd100 hw)) (ty := (.object "java/lang/String")) (by decide)
        refine o_dup X156_5 hx (hb hby at_159) rfl rfl ?_
        refine o_aload X156_5 hx (hb hby at_160) rfl rfl rfl ?_
        refine o_iloadN X156_5 hx (hb hby at_162) rfl rfl ?_
        refine o_iloadN X156_5 hx (hb hby at_163) rfl rfl ?_
        refine o_iconst X156_5 hx (hb hby at_164) (v := (2 : Int32)) rfl rfl ?_
        refine o_iushr X156_5 hx (hb hby at_165) rfl ?_
        have fE166_10 : Exa Z h156_5 b118_3 "com/example/hybrev/hybrev/RevocationEvent" := ((qE_126_3.keep K129_3).ext E156_5)
        have fE166_11 : Exa Z h156_5 b_129_3 "[Ljava/lang/Object;" := (qE_129_6.ext E156_5)
        have fE166_12 : Exa Z h156_5 b26 "java/util/ArrayList" := (qE_129_5.ext E156_5)
        refine o_staticF X156_5 hx hZ105_2 hown105_2 (wd31 hw) (wd32 hw) (by decide) (rm5 l Z a0 hw p2 (((p1.toUInt32 >>> ((2 : Int32) &&& 31).toUInt32).toInt32)) cs h156_5 n0 OE156_5 S_COMPACT_STRINGS hcs) (wd34 hw) (wd33 hw) e156_5 BE156_5 (own_EW hw) sl0 sl0 (by rw [hml]; rfl) (argsL := [(.int p2), (.int ((p1.toUInt32 >>> ((2 : Int32) &&& 31).toUInt32).toInt32))]) (rest := [(.ref b26), (.ref b156_5), (.ref b156_5)]) (W := 3) pd17 rfl rfl rfl rfl (hb hby at_166) (by decide) (by decide) (by decide) (by decide) (cells' := 22) (slots' := 53) rfl rfl rfl fun v166_5 s166_5 T166_5 h166_5 Lc166_5 X166_5 e166_5 B166_5 hZ166_5 hown166_5 hS166_5 hq166_5 => ?_
        obtain ⟨b_166_5, rfl, N166q_5, K166_5, hb_166_5, qE_166_5⟩ := hq166_5
        have N166_5 := Fr.app N129_3 N166q_5
        have s_b_166_5_h0 : h0.size ≤ b_166_5 := Nat.le_trans KE156_5_h0.1 hb_166_5
        have n_b_166_5 : n0 ≤ b_166_5 := Nat.le_trans (OE156_5.1 ▸ OE156_5.2.1) hb_166_5
        have KK166_5_h0 : Keep h0 h166_5 [] := KE156_5_h0.trans K166_5 all0
        have OK166_5 : Old Z n0 h166_5 := OE156_5.keep K166_5 all0
        have sf_b26_32 := hS166_5 b26 fE166_12.lt sf_b26_31
        have sf_b118_3_6 := hS166_5 b118_3 fE166_10.lt sf_b118_3_5
        have sf_b_129_3_4 := hS166_5 b_129_3 fE166_11.lt sf_b_129_3_3
        have sf_b156_5_2 := hS166_5 b156_5 A156_5.lt sf_b156_5
        show Goes p.tables e below (EndsH Z consts_1 s h0 (Q0 Z p0 p1 p2 p3 cs de kd el ea ke mo em mp tk us h0 n0) room_1.cells room_1.slots) (T166_5.setTop (mkF m 169 #[.val (.int p0), .val (.int p1), .val (.int p2), .val (.int p3), .val (.int (0 : Int32)), .unset, .val (.ref b26), .val (.int (1 : Int32)), .val (.int (1 : Int32)), .val (.ref tk), .val (.ref us), .val (.ref b_92_2), .val (.ref b_105_2)] [(.ref b_166_5), (.ref b26), (.ref b156_5), (.ref b156_5)]))
        have fE169_14 : Exa Z h166_5 b156_5 "com/example/hybrev/hybrev/EventPage" := (A156_5.keep K166_5)
        have fF169_15 : Fld Z h166_5 b156_5 "com/example/hybrev/hybrev/EventPage" "events" "Ljava/util/List;" .null := (Fb156_5_events.keep K166_5 nin0)
        have fF169_16 : Fld Z h166_5 b156_5 "com/example/hybrev/hybrev/EventPage" "next" "Ljava/lang/String;" .null := (Fb156_5_next.keep K166_5 nin0)
        have fE169_15 : Exa Z h166_5 b26 "java/util/ArrayList" := (fE166_12.keep K166_5)
        have fF169_17 : Fld Z h166_5 b26 "java/util/ArrayList" "elementData" "[Ljava/lang/Object;" (.ref b_129_3) := ((qF_129_7.ext E156_5).keep K166_5 nin0)
        have fF169_18 : Fld Z h166_5 b26 "java/util/ArrayList" "size" "I" (.int (1 : Int32)) := ((qF_129_8.ext E156_5).keep K166_5 nin0)
        have fE169_16 : Exa Z h166_5 b_129_3 "[Ljava/lang/Object;" := (fE166_11.keep K166_5)
        have fA169_3 : Arv Z h166_5 b_129_3 k_129_3 (.object "java/lang/Object") (10 : Int32) [(.ref b118_3), .null, .null, .null, .null, .null, .null, .null, .null, .null] .null := ((qA_129_3.ext E156_5).keep K166_5 nin0)
        have fE169_17 : Exa Z h166_5 b118_3 "com/example/hybrev/hybrev/RevocationEvent" := (fE166_10.keep K166_5)
        refine o_specialF X166_5 hx hZ166_5 rfl rfl hown166_5 (wd58 hw) (wd59 hw) (by decide) (a := b156_5) (rmepi1 l Z a0 hw b156_5 b_166_5 b26 b_129_3 k_129_3 b118_3 mo em h166_5 n0 OK166_5 fE169_14 fF169_15 fF169_16 qE_166_5 fE169_15 fF169_17 fF169_18 fE169_16 fA169_3 fE169_17 hM S_EMPTY n_b156_5 (Ne.symm (Nat.ne_of_lt (Nat.lt_of_lt_of_le qF_129_9.lt (Nat.le_of_eq g156_5.symm)))) (Ne.symm (Nat.ne_of_lt (Nat.lt_of_lt_of_le qE_129_6.lt (Nat.le_of_eq g156_5.symm))))) (wd60 hw) (wd57 hw) e166_5 B166_5 (own_EW hw) (slS fE169_14.lt sl0) (slS sf_b156_5_2 sl0) (by rw [hml]; rfl) (argsL := [(.ref b26), (.ref b_166_5)]) (rest := [(.ref b156_5)]) (W := 1) pd18 rfl rfl rfl rfl (hb hby at_169) (by decide) (by decide) (by decide) (by decide) (cells' := 26) (slots' := 76) rfl rfl rfl fun v169_5 s169_5 T169_5 h169_5 Lc169_5 X169_5 e169_5 B169_5 hZ169_5 hown169_5 hS169_5 hq169_5 => ?_
        obtain ⟨rfl, N169q_5, K169_5, qE_169_5, qF_169_5⟩ := hq169_5
        have N169_5 := Fr.app N166_5 N169q_5
        have KK169_5_h0 : Keep h0 h169_5 [] := KK166_5_h0.trans K169_5 (allS (Or.inr s_b156_5_h0) all0)
        have OK169_5 : Old Z n0 h169_5 := OK166_5.keep K169_5 (allS n_b156_5 all0)
        have sf_b26_33 := hS169_5 b26 fE169_15.lt sf_b26_32
        have sf_b118_3_7 := hS169_5 b118_3 fE169_17.lt sf_b118_3_6
        have sf_b_129_3_5 := hS169_5 b_129_3 fE169_16.lt sf_b_129_3_4
        have sf_b156_5_3 := hS169_5 b156_5 fE169_14.lt sf_b156_5_2
        show Goes p.tables e below (EndsH Z consts_1 s h0 (Q0 Z p0 p1 p2 p3 cs de kd el ea ke mo em mp tk us h0 n0) room_1.cells room_1.slots) (T169_5.setTop (mkF m 172 #[.val (.int p0), .val (.int p1), .val (.int p2), .val (.int p3), .val (.int (0 : Int32)), .unset, .val (.ref b26), .val (.int (1 : Int32)), .val (.int (1 : Int32)), .val (.ref tk), .val (.ref us), .val (.ref b_92_2), .val (.ref b_105_2)] [(.ref b156_5)]))
        refine o_astore X169_5 hx (hb hby at_172) rfl (L' := #[.val (.int p0), .val (.int p1), .val (.int p2), .val (.int p3), .val (.int (0 : Int32)), .val (.ref b156_5), .val (.ref b26), .val (.int (1 : Int32)), .val (.int (1 : Int32)), .val (.ref tk), .val (.ref us), .val (.ref b_92_2), .val (.ref b_105_2)]) rfl rfl ?_
        refine o_aload X169_5 hx (hb hby at_174) rfl rfl rfl ?_
        refine o_virtual X169_5 hx hZ169_5 (C := "com/example/hybrev/hybrev/EventPage") hown169_5 (wd101 hw) (wd102 hw) (notFace_of_selects (args := #[]) (mvT hZ169_5 (wd104 hw))) (wd104 hw) (wd103 hw) (by decide) qE_169_5 (rmimR l Z a0 hw b156_5 b_166_5 h169_5 n0 OK169_5 qF_169_5) (wd105 hw) (wd57 hw) e169_5 (by rw [hml]; rfl) (argsL := []) (rest := []) (W := 0) pd12 rfl rfl rfl rfl (hb hby at_176) (by decide) (by decide) (by decide) (by decide) (cells' := 26) (slots' := 76) rfl rfl rfl fun v176_5 T176_5 h176_5 Lc176_5 X176_5 e176_9 hq176_5 => ?_
        obtain ⟨rfl, N176q_5, K176_5⟩ := hq176_5
        have N176_5 := Fr.app N169_5 N176q_5
        have e176_10 : T176_5.heap = h169_5 := e176_9.trans K176_5
        show Goes p.tables e below (EndsH Z consts_1 s h0 (Q0 Z p0 p1 p2 p3 cs de kd el ea ke mo em mp tk us h0 n0) room_1.cells room_1.slots) (T176_5.setTop (mkF m 179 #[.val (.int p0), .val (.int p1), .val (.int p2), .val (.int p3), .val (.int (0 : Int32)), .val (.ref b156_5), .val (.ref b26), .val (.int (1 : Int32)), .val (.int (1 : Int32)), .val (.ref tk), .val (.ref us), .val (.ref b_92_2), .val (.ref b_105_2)] [(.int (0 : Int32))]))
        refine o_istore X176_5 hx (hb hby at_179) (L' := #[.val (.int p0), .val (.int p1), .val (.int p2), .val (.int p3), .val (.int (0 : Int32)), .val (.ref b156_5), .val (.int (0 : Int32)), .val (.int (1 : Int32)), .val (.int (1 : Int32)), .val (.ref tk), .val (.ref us), .val (.ref b_92_2), .val (.ref b_105_2)]) rfl rfl ?_
        refine o_iload X176_5 hx (hb hby at_181) rfl rfl ?_
        refine o_iload X176_5 hx (hb hby at_183) rfl rfl ?_
        refine o_icmpYes X176_5 hx (hb hby at_185) (teq (by decide)).1 (by decide) (pc' := 190) (by decide) ?_
        refine o_iload X176_5 hx (hb hby at_190) rfl rfl ?_
        refine o_aload X176_5 hx (hb hby at_192) rfl rfl rfl ?_
        refine o_virtual X176_5 hx hZ169_5 (C := "com/example/hybrev/hybrev/EventPage") hown169_5 (wd106 hw) (wd107 hw) (notFace_of_selects (args := #[]) (mvT hZ169_5 (wd109 hw))) (wd109 hw) (wd108 hw) (by decide) qE_169_5 (rmgnR l Z a0 hw b156_5 b_166_5 h169_5 n0 OK169_5 qF_169_5) (wd110 hw) (wd57 hw) e176_10 (by rw [hml]; rfl) (argsL := []) (rest := [(.int (0 : Int32))]) (W := 1) pd19 rfl rfl rfl rfl (hb hby at_194) (by decide) (by decide) (by decide) (by decide) (cells' := 26) (slots' := 76) rfl rfl rfl fun v194_5 T194_5 h194_5 Lc194_5 X194_5 e194_9 hq194_5 => ?_
        obtain ⟨rfl, N194q_5, K194_5⟩ := hq194_5
        have N194_5 := Fr.app N176_5 N194q_5
        have e194_10 : T194_5.heap = h169_5 := e194_9.trans K194_5
        show Goes p.tables e below (EndsH Z consts_1 s h0 (Q0 Z p0 p1 p2 p3 cs de kd el ea ke mo em mp tk us h0 n0) room_1.cells room_1.slots) (T194_5.setTop (mkF m 197 #[.val (.int p0), .val (.int p1), .val (.int p2), .val (.int p3), .val (.int (0 : Int32)), .val (.ref b156_5), .val (.int (0 : Int32)), .val (.int (1 : Int32)), .val (.int (1 : Int32)), .val (.ref tk), .val (.ref us), .val (.ref b_92_2), .val (.ref b_105_2)] [(.ref b_166_5), (.int (0 : Int32))]))
        refine o_ifnonnullYes X194_5 hx (hb hby at_197) (by decide) (pc' := 204) (by decide) ?_
        refine o_iconst X194_5 hx (hb hby at_204) (v := (0 : Int32)) rfl rfl ?_
        refine o_icmpYes X194_5 hx (hb hby at_205) (teq (by decide)).1 (by decide) (pc' := 210) (by decide) ?_
        refine o_iload X194_5 hx (hb hby at_210) rfl rfl ?_
        refine o_ifYes X194_5 hx (hb hby at_212) ((if0 _ _).trans (teq (by decide)).1) (by decide) (pc' := 230) (by decide) ?_
        refine o_iconst X194_5 hx (hb hby at_230) (v := (1 : Int32)) rfl rfl ?_
        exact o_retH X194_5 hx hlk (t := .boolean) hret rfl (Or.inl ⟨rfl, by decide, _, rfl⟩) (hb hby at_231) (by decide) (by decide) e194_10 hZ169_5 (own_EW hw) B169_5 ⟨rfl, N194_5, KK169_5_h0⟩
      ·
        refine o_locs (L' := #[.val (.int p0), .val (.int p1), .val (.int p2), .val (.int p3), .val (.int (0 : Int32)), .unset, .val (.ref b26), .val (.int (2 : Int32)), .val (.int (1 : Int32)), .val (.ref tk), .val (.ref us), .val (.ref b_92_2), .val (.ref b_105_2)]) (by rw [hn3]) ?_
        refine o_iload X105_2 hx (hb hby at_110) rfl rfl ?_
        refine o_iconst X105_2 hx (hb hby at_112) (v := (1 : Int32)) rfl rfl ?_
        refine o_icmpNo X105_2 hx (hb hby at_113) (flt (by decide)).1 rfl ?_
        refine o_aload X105_2 hx (hb hby at_116) rfl rfl rfl ?_
        refine o_new X105_2 hx hZ105_2 hown105_2 (wd144 hw) (wd145 hw) (wd146 hw) e105_2 (hb hby at_118) (by decide) (by decide) (cells' := 14) (slots' := 29) rfl rfl rfl fun T118_4 h118_4 b118_4 g118_4 X118_4 e118_4 E118_4 A118_4 D118_4 => ?_
        have s_b118_4_h0 : h0.size ≤ b118_4 := Nat.le_trans KK105_2_h0.1 (Nat.le_of_eq g118_4.symm)
        have n_b118_4 : n0 ≤ b118_4 := Nat.le_trans (OK105_2.1 ▸ OK105_2.2.1) (Nat.le_of_eq g118_4.symm)
        have KE118_4_h0 : Keep h0 h118_4 [] := KK105_2_h0.ext E118_4
        have OE118_4 : Old Z n0 h118_4 := OK105_2.ext E118_4
        have BE118_4 : HB Z consts_1 s s105_2 h0 h118_4 := B105_2.ext E118_4
        have sf_b26_34 : Safe Z consts_1 s105_2.vm h118_4 b26 := own_sfE B105_2.ch E118_4 sf_b26_24
        have sf_b118_4_2 : Safe Z consts_1 s105_2.vm h118_4 b118_4 := own_sfE B105_2.ch E118_4 (Safe.new (Z := Z) (EL := consts_1) (vm := s105_2.vm) (Nat.le_of_eq g118_4.symm))
        have Fb118_4_kind : Fld Z h118_4 b118_4 "com/example/hybrev/hybrev/RevocationEvent" "kind" "Lcom/example/hybrev/hybrev/RevocationEvent$Kind;" .null := D118_4 (Or.inr (wd152 hw)) (ty := (.object "com/example/hybrev/hybrev/RevocationEvent$Kind")) (by decide)
        have Fb118_4_id : Fld Z h118_4 b118_4 "com/example/hybrev/hybrev/RevocationEvent" "id" "Ljava/lang/String;" .null := D118_4 (Or.inr (wd154 hw)) (ty := (.object "java/lang/String")) (by decide)
        refine o_dup X118_4 hx (hb hby at_121) rfl rfl ?_
        refine o_aload X118_4 hx (hb hby at_122) rfl rfl rfl ?_
        refine o_aload X118_4 hx (hb hby at_124) rfl rfl rfl ?_
        refine o_special X118_4 hx hZ105_2 rfl rfl hown105_2 (wd147 hw) (wd148 hw) (by decide) (a := b118_4) (rm22 l Z a0 hw b118_4 tk b_92_2 h118_4 n0 OE118_4 A118_4 Fb118_4_kind Fb118_4_id n_b118_4) (wd149 hw) (wd146 hw) e118_4 (by rw [hml]; rfl) (argsL := [(.ref tk), (.ref b_92_2)]) (rest := [(.ref b118_4), (.ref b26)]) (W := 2) pd20 rfl rfl rfl rfl (hb hby at_126) (by decide) (by decide) (by decide) (by decide) (cells' := 14) (slots' := 29) rfl rfl rfl fun v126_4 T126_4 h126_4 Lc126_4 X126_4 e126_4 hq126_4 => ?_
        obtain ⟨rfl, N126q_4, K126_4, qE_126_4⟩ := hq126_4
        have N126_4 := Fr.app N105_2 N126q_4
        have KK126_4_h0 : Keep h0 h126_4 [] := KE118_4_h0.trans K126_4 (allS (Or.inr s_b118_4_h0) all0)
        have OK126_4 : Old Z n0 h126_4 := OE118_4.keep K126_4 (allS n_b118_4 all0)
        have BK126_4 : HB Z consts_1 s s105_2 h0 h126_4 := BE118_4.keep K126_4 (slS sf_b118_4_2 sl0)
        have sf_b26_35 : Safe Z consts_1 s105_2.vm h126_4 b26 := own_sfK BE118_4.ch K126_4 (slS sf_b118_4_2 sl0) sf_b26_34
        have sf_b118_4_3 : Safe Z consts_1 s105_2.vm h126_4 b118_4 := own_sfK BE118_4.ch K126_4 (slS sf_b118_4_2 sl0) sf_b118_4_2
        show Goes p.tables e below (EndsH Z consts_1 s h0 (Q0 Z p0 p1 p2 p3 cs de kd el ea ke mo em mp tk us h0 n0) room_1.cells room_1.slots) (T126_4.setTop (mkF m 129 #[.val (.int p0), .val (.int p1), .val (.int p2), .val (.int p3), .val (.int (0 : Int32)), .unset, .val (.ref b26), .val (.int (2 : Int32)), .val (.int (1 : Int32)), .val (.ref tk), .val (.ref us), .val (.ref b_92_2), .val (.ref b_105_2)] [(.ref b118_4), (.ref b26)]))
        have fE129_7 : Exa Z h126_4 b26 "java/util/ArrayList" := (((fE105_2.keep K105_2).ext E118_4).keep K126_4)
        have fF129_10 : Fld Z h126_4 b26 "java/util/ArrayList" "elementData" "[Ljava/lang/Object;" (.ref de) := ((((qF_30.keep K92_2 nin0).keep K105_2 nin0).ext E118_4).keep K126_4 (ninS (Nat.ne_of_lt (Nat.lt_of_lt_of_le ((qF_30_3.keep K92_2 nin0).keep K105_2 nin0).lt (Nat.le_of_eq g118_4.symm))) nin0))
        have fF129_11 : Fld Z h126_4 b26 "java/util/ArrayList" "size" "I" (.int (0 : Int32)) := ((((qF_30_2.keep K92_2 nin0).keep K105_2 nin0).ext E118_4).keep K126_4 (ninS (Nat.ne_of_lt (Nat.lt_of_lt_of_le ((qF_30_3.keep K92_2 nin0).keep K105_2 nin0).lt (Nat.le_of_eq g118_4.symm))) nin0))
        have fF129_12 : Fld Z h126_4 b26 "java/util/AbstractList" "modCount" "I" (.int (0 : Int32)) := ((((qF_30_3.keep K92_2 nin0).keep K105_2 nin0).ext E118_4).keep K126_4 (ninS (Nat.ne_of_lt (Nat.lt_of_lt_of_le ((qF_30_3.keep K92_2 nin0).keep K105_2 nin0).lt (Nat.le_of_eq g118_4.symm))) nin0))
        have fE129_8 : Exa Z h126_4 de "[Ljava/lang/Object;" := (((((fE30.keep K30).keep K92_2).keep K105_2).ext E118_4).keep K126_4)
        have fA129_4 : Arv Z h126_4 de kd (.object "java/lang/Object") (0 : Int32) [] .null := (((((fA30.keep K30 (ninS (Nat.ne_of_lt (Nat.lt_of_lt_of_le E_de.lt (Nat.le_of_eq g26.symm))) nin0)).keep K92_2 nin0).keep K105_2 nin0).ext E118_4).keep K126_4 (ninS (Nat.ne_of_lt (Nat.lt_of_lt_of_le (((fA30.keep K30 (ninS (Nat.ne_of_lt (Nat.lt_of_lt_of_le E_de.lt (Nat.le_of_eq g26.symm))) nin0)).keep K92_2 nin0).keep K105_2 nin0).lt (Nat.le_of_eq g118_4.symm))) nin0))
        refine o_virtual X126_4 hx hZ105_2 (C := "java/util/ArrayList") hown105_2 (wd155 hw) (wd156 hw) (notFace_of_selects (args := #[]) (mvT hZ105_2 (wd158 hw))) (wd158 hw) (wd157 hw) (by decide) fE129_7 (rmad0 l Z a0 hw b26 ((0 : Int32)) de kd b118_4 h126_4 n0 OK126_4 fE129_7 fF129_10 fF129_11 fF129_12 S_DEFAULTCAPACITY_EMPTY_ELEMENTDATA fE129_8 fA129_4 n_b26 qE_126_4) (wd159 hw) (wd2 hw) e126_4 (by rw [hml]; rfl) (argsL := [(.ref b118_4)]) (rest := []) (W := 0) pd21 rfl rfl rfl rfl (hb hby at_129) (by decide) (by decide) (by decide) (by decide) (cells' := 15) (slots' := 39) rfl rfl rfl fun v129_4 T129_4 h129_4 Lc129_4 X129_4 e129_4 hq129_4 => ?_
        obtain ⟨b_129_4, k_129_4, rfl, N129q_4, K129_4, hb_129_4, qE_129_7, qE_129_8, qF_129_10, qF_129_11, qF_129_12, qA_129_4, hO_129_4⟩ := hq129_4
        have N129_4 := Fr.app N126_4 N129q_4
        have s_b_129_4_h0 : h0.size ≤ b_129_4 := Nat.le_trans KK126_4_h0.1 hb_129_4
        have n_b_129_4 : n0 ≤ b_129_4 := Nat.le_trans (OK126_4.1 ▸ OK126_4.2.1) hb_129_4
        have KK129_4_h0 : Keep h0 h129_4 [] := KK126_4_h0.trans K129_4 (allS (Or.inr s_b26_h0) all0)
        have OK129_4 : Old Z n0 h129_4 := OK126_4.keep K129_4 (allS n_b26 all0)
        have BK129_4 : HB Z consts_1 s s105_2 h0 h129_4 := BK126_4.keep K129_4 (slS sf_b26_35 sl0)
        have sf_b26_36 : Safe Z consts_1 s105_2.vm h129_4 b26 := own_sfK BK126_4.ch K129_4 (slS sf_b26_35 sl0) sf_b26_35
        have sf_b118_4_4 : Safe Z consts_1 s105_2.vm h129_4 b118_4 := own_sfK BK126_4.ch K129_4 (slS sf_b26_35 sl0) sf_b118_4_3
        have sf_b_129_4_2 : Safe Z consts_1 s105_2.vm h129_4 b_129_4 := own_sfK BK126_4.ch K129_4 (slS sf_b26_35 sl0) (Safe.new (Z := Z) (EL := consts_1) (vm := s105_2.vm) hb_129_4)
        show Goes p.tables e below (EndsH Z consts_1 s h0 (Q0 Z p0 p1 p2 p3 cs de kd el ea ke mo em mp tk us h0 n0) room_1.cells room_1.slots) (T129_4.setTop (mkF m 132 #[.val (.int p0), .val (.int p1), .val (.int p2), .val (.int p3), .val (.int (0 : Int32)), .unset, .val (.ref b26), .val (.int (2 : Int32)), .val (.int (1 : Int32)), .val (.ref tk), .val (.ref us), .val (.ref b_92_2), .val (.ref b_105_2)] [(.int (1 : Int32))]))
        refine o_pop X129_4 hx (hb hby at_132) rfl rfl ?_
        refine o_iload X129_4 hx (hb hby at_133) rfl rfl ?_
        refine o_iconst X129_4 hx (hb hby at_135) (v := (2 : Int32)) rfl rfl ?_
        refine o_icmpNo X129_4 hx (hb hby at_136) (flt (by decide)).1 rfl ?_
        refine o_aload X129_4 hx (hb hby at_139) rfl rfl rfl ?_
        refine o_new X129_4 hx hZ105_2 hown105_2 (wd144 hw) (wd145 hw) (wd146 hw) e129_4 (hb hby at_141) (by decide) (by decide) (cells' := 16) (slots' := 41) rfl rfl rfl fun T141_2 h141_2 b141_2 g141_2 X141_2 e141_2 E141_2 A141_2 D141_2 => ?_
        have s_b141_2_h0 : h0.size ≤ b141_2 := Nat.le_trans KK129_4_h0.1 (Nat.le_of_eq g141_2.symm)
        have n_b141_2 : n0 ≤ b141_2 := Nat.le_trans (OK129_4.1 ▸ OK129_4.2.1) (Nat.le_of_eq g141_2.symm)
        have KE141_2_h0 : Keep h0 h141_2 [] := KK129_4_h0.ext E141_2
        have OE141_2 : Old Z n0 h141_2 := OK129_4.ext E141_2
        have BE141_2 : HB Z consts_1 s s105_2 h0 h141_2 := BK129_4.ext E141_2
        have sf_b26_37 : Safe Z consts_1 s105_2.vm h141_2 b26 := own_sfE BK129_4.ch E141_2 sf_b26_36
        have sf_b118_4_5 : Safe Z consts_1 s105_2.vm h141_2 b118_4 := own_sfE BK129_4.ch E141_2 sf_b118_4_4
        have sf_b_129_4_3 : Safe Z consts_1 s105_2.vm h141_2 b_129_4 := own_sfE BK129_4.ch E141_2 sf_b_129_4_2
        have sf_b141_2_2 : Safe Z consts_1 s105_2.vm h141_2 b141_2 := own_sfE BK129_4.ch E141_2 (Safe.new (Z := Z) (EL := consts_1) (vm := s105_2.vm) (Nat.le_of_eq g141_2.symm))
        have Fb141_2_kind : Fld Z h141_2 b141_2 "com/example/hybrev/hybrev/RevocationEvent" "kind" "Lcom/example/hybrev/hybrev/RevocationEvent$Kind;" .null := D141_2 (Or.inr (wd152 hw)) (ty := (.object "com/example/hybrev/hybrev/RevocationEvent$Kind")) (by decide)
        have Fb141_2_id : Fld Z h141_2 b141_2 "com/example/hybrev/hybrev/RevocationEvent" "id" "Ljava/lang/String;" .null := D141_2 (Or.inr (wd154 hw)) (ty := (.object "java/lang/String")) (by decide)
        refine o_dup X141_2 hx (hb hby at_144) rfl rfl ?_
        refine o_aload X141_2 hx (hb hby at_145) rfl rfl rfl ?_
        refine o_aload X141_2 hx (hb hby at_147) rfl rfl rfl ?_
        refine o_special X141_2 hx hZ105_2 rfl rfl hown105_2 (wd147 hw) (wd148 hw) (by decide) (a := b141_2) (rm22 l Z a0 hw b141_2 us b_105_2 h141_2 n0 OE141_2 A141_2 Fb141_2_kind Fb141_2_id n_b141_2) (wd149 hw) (wd146 hw) e141_2 (by rw [hml]; rfl) (argsL := [(.ref us), (.ref b_105_2)]) (rest := [(.ref b141_2), (.ref b26)]) (W := 2) pd20 rfl rfl rfl rfl (hb hby at_149) (by decide) (by decide) (by decide) (by decide) (cells' := 16) (slots' := 41) rfl rfl rfl fun v149_2 T149_2 h149_2 Lc149_2 X149_2 e149_2 hq149_2 => ?_
        obtain ⟨rfl, N149q_2, K149_2, qE_149_2⟩ := hq149_2
        have N149_2 := Fr.app N129_4 N149q_2
        have KK149_2_h0 : Keep h0 h149_2 [] := KE141_2_h0.trans K149_2 (allS (Or.inr s_b141_2_h0) all0)
        have OK149_2 : Old Z n0 h149_2 := OE141_2.keep K149_2 (allS n_b141_2 all0)
        have BK149_2 : HB Z consts_1 s s105_2 h0 h149_2 := BE141_2.keep K149_2 (slS sf_b141_2_2 sl0)
        have sf_b26_38 : Safe Z consts_1 s105_2.vm h149_2 b26 := own_sfK BE141_2.ch K149_2 (slS sf_b141_2_2 sl0) sf_b26_37
        have sf_b118_4_6 : Safe Z consts_1 s105_2.vm h149_2 b118_4 := own_sfK BE141_2.ch K149_2 (slS sf_b141_2_2 sl0) sf_b118_4_5
        have sf_b_129_4_4 : Safe Z consts_1 s105_2.vm h149_2 b_129_4 := own_sfK BE141_2.ch K149_2 (slS sf_b141_2_2 sl0) sf_b_129_4_3
        have sf_b141_2_3 : Safe Z consts_1 s105_2.vm h149_2 b141_2 := own_sfK BE141_2.ch K149_2 (slS sf_b141_2_2 sl0) sf_b141_2_2
        show Goes p.tables e below (EndsH Z consts_1 s h0 (Q0 Z p0 p1 p2 p3 cs de kd el ea ke mo em mp tk us h0 n0) room_1.cells room_1.slots) (T149_2.setTop (mkF m 152 #[.val (.int p0), .val (.int p1), .val (.int p2), .val (.int p3), .val (.int (0 : Int32)), .unset, .val (.ref b26), .val (.int (2 : Int32)), .val (.int (1 : Int32)), .val (.ref tk), .val (.ref us), .val (.ref b_92_2), .val (.ref b_105_2)] [(.ref b141_2), (.ref b26)]))
        have fE152_3 : Exa Z h149_2 b26 "java/util/ArrayList" := ((qE_129_7.ext E141_2).keep K149_2)
        have fE152_4 : Exa Z h149_2 b_129_4 "[Ljava/lang/Object;" := ((qE_129_8.ext E141_2).keep K149_2)
        have fF152_4 : Fld Z h149_2 b26 "java/util/ArrayList" "elementData" "[Ljava/lang/Object;" (.ref b_129_4) := ((qF_129_10.ext E141_2).keep K149_2 (ninS (Nat.ne_of_lt (Nat.lt_of_lt_of_le qF_129_12.lt (Nat.le_of_eq g141_2.symm))) nin0))
        have fF152_5 : Fld Z h149_2 b26 "java/util/ArrayList" "size" "I" (.int (1 : Int32)) := ((qF_129_11.ext E141_2).keep K149_2 (ninS (Nat.ne_of_lt (Nat.lt_of_lt_of_le qF_129_12.lt (Nat.le_of_eq g141_2.symm))) nin0))
        have fF152_6 : Fld Z h149_2 b26 "java/util/AbstractList" "modCount" "I" (.int ((0 : Int32) + (1 : Int32))) := ((qF_129_12.ext E141_2).keep K149_2 (ninS (Nat.ne_of_lt (Nat.lt_of_lt_of_le qF_129_12.lt (Nat.le_of_eq g141_2.symm))) nin0))
        have fA152_2 : Arv Z h149_2 b_129_4 k_129_4 (.object "java/lang/Object") (10 : Int32) [(.ref b118_4), .null, .null, .null, .null, .null, .null, .null, .null, .null] .null := ((qA_129_4.ext E141_2).keep K149_2 (ninS (Nat.ne_of_lt (Nat.lt_of_lt_of_le qA_129_4.lt (Nat.le_of_eq g141_2.symm))) nin0))
        refine o_virtual X149_2 hx hZ105_2 (C := "java/util/ArrayList") hown105_2 (wd155 hw) (wd156 hw) (notFace_of_selects (args := #[]) (mvT hZ105_2 (wd158 hw))) (wd158 hw) (wd157 hw) (by decide) fE152_3 (rmad1 l Z a0 hw b26 (((0 : Int32) + (1 : Int32))) b_129_4 k_129_4 b118_4 b141_2 h149_2 n0 OK149_2 fE152_3 fE152_4 fF152_4 fF152_5 fF152_6 fA152_2 hO_129_4 n_b_129_4 (Nat.ne_of_lt (Nat.lt_of_lt_of_le (Nat.lt_of_lt_of_le (Nat.lt_of_lt_of_le (Nat.lt_of_lt_of_le (Nat.lt_of_lt_of_le (Nat.lt_of_lt_of_le A26.lt K30.1) K92_2.1) K105_2.1) E118_4.1) K126_4.1) hb_129_4)) n_b26 qE_149_2) (wd159 hw) (wd2 hw) e149_2 (by rw [hml]; rfl) (argsL := [(.ref b141_2)]) (rest := []) (W := 0) pd21 rfl rfl rfl rfl (hb hby at_152) (by decide) (by decide) (by decide) (by decide) (cells' := 16) (slots' := 41) rfl rfl rfl fun v152_2 T152_2 h152_2 Lc152_2 X152_2 e152_2 hq152_2 => ?_
        obtain ⟨rfl, N152q_2, K152_2, qE_152_3, qE_152_4, qF_152_4, qF_152_5, qF_152_6, qA_152_2⟩ := hq152_2
        have N152_2 := Fr.app N149_2 N152q_2
        have KK152_2_h0 : Keep h0 h152_2 [] := KK149_2_h0.trans K152_2 (allS (Or.inr s_b26_h0) (allS (Or.inr s_b_129_4_h0) all0))
        have OK152_2 : Old Z n0 h152_2 := OK149_2.keep K152_2 (allS n_b26 (allS n_b_129_4 all0))
        have BK152_2 : HB Z consts_1 s s105_2 h0 h152_2 := BK149_2.keep K152_2 (slS sf_b26_38 (slS sf_b_129_4_4 sl0))
        have sf_b26_39 : Safe Z consts_1 s105_2.vm h152_2 b26 := own_sfK BK149_2.ch K152_2 (slS sf_b26_38 (slS sf_b_129_4_4 sl0)) sf_b26_38
        have sf_b118_4_7 : Safe Z consts_1 s105_2.vm h152_2 b118_4 := own_sfK BK149_2.ch K152_2 (slS sf_b26_38 (slS sf_b_129_4_4 sl0)) sf_b118_4_6
        have sf_b_129_4_5 : Safe Z consts_1 s105_2.vm h152_2 b_129_4 := own_sfK BK149_2.ch K152_2 (slS sf_b26_38 (slS sf_b_129_4_4 sl0)) sf_b_129_4_4
        have sf_b141_2_4 : Safe Z consts_1 s105_2.vm h152_2 b141_2 := own_sfK BK149_2.ch K152_2 (slS sf_b26_38 (slS sf_b_129_4_4 sl0)) sf_b141_2_3
        show Goes p.tables e below (EndsH Z consts_1 s h0 (Q0 Z p0 p1 p2 p3 cs de kd el ea ke mo em mp tk us h0 n0) room_1.cells room_1.slots) (T152_2.setTop (mkF m 155 #[.val (.int p0), .val (.int p1), .val (.int p2), .val (.int p3), .val (.int (0 : Int32)), .unset, .val (.ref b26), .val (.int (2 : Int32)), .val (.int (1 : Int32)), .val (.ref tk), .val (.ref us), .val (.ref b_92_2), .val (.ref b_105_2)] [(.int (1 : Int32))]))
        refine o_pop X152_2 hx (hb hby at_155) rfl rfl ?_
        refine o_new X152_2 hx hZ105_2 hown105_2 (wd55 hw) (wd56 hw) (wd57 hw) e152_2 (hb hby at_156) (by decide) (by decide) (cells' := 17) (slots' := 43) rfl rfl rfl fun T156_6 h156_6 b156_6 g156_6 X156_6 e156_6 E156_6 A156_6 D156_6 => ?_
        have s_b156_6_h0 : h0.size ≤ b156_6 := Nat.le_trans KK152_2_h0.1 (Nat.le_of_eq g156_6.symm)
        have n_b156_6 : n0 ≤ b156_6 := Nat.le_trans (OK152_2.1 ▸ OK152_2.2.1) (Nat.le_of_eq g156_6.symm)
        have KE156_6_h0 : Keep h0 h156_6 [] := KK152_2_h0.ext E156_6
        have OE156_6 : Old Z n0 h156_6 := OK152_2.ext E156_6
        have BE156_6 : HB Z consts_1 s s105_2 h0 h156_6 := BK152_2.ext E156_6
        have sf_b26_40 : Safe Z consts_1 s105_2.vm h156_6 b26 := own_sfE BK152_2.ch E156_6 sf_b26_39
        have sf_b118_4_8 : Safe Z consts_1 s105_2.vm h156_6 b118_4 := own_sfE BK152_2.ch E156_6 sf_b118_4_7
        have sf_b_129_4_6 : Safe Z consts_1 s105_2.vm h156_6 b_129_4 := own_sfE BK152_2.ch E156_6 sf_b_129_4_5
        have sf_b141_2_5 : Safe Z consts_1 s105_2.vm h156_6 b141_2 := own_sfE BK152_2.ch E156_6 sf_b141_2_4
        have sf_b156_6 : Safe Z consts_1 s105_2.vm h156_6 b156_6 := own_sfE BK152_2.ch E156_6 (Safe.new (Z := Z) (EL := consts_1) (vm := s105_2.vm) (Nat.le_of_eq g156_6.symm))
        have Fb156_6_events : Fld Z h156_6 b156_6 "com/example/hybrev/hybrev/EventPage" "events" "Ljava/util/List;" .null := D156_6 (Or.inr (wd92 hw)) (ty := (.object "java/util/List")) (by decide)
        have Fb156_6_next : Fld Z h156_6 b156_6 "com/example/hybrev/hybrev/EventPage" "next" "Ljava/lang/String;" .null := D156_6 (Or.inr (wd100 hw)) (ty := (.object "java/lang/String")) (by decide)
        refine o_dup X156_6 hx (hb hby at_159) rfl rfl ?_
        refine o_aload X156_6 hx (hb hby at_160) rfl rfl rfl ?_
        refine o_iloadN X156_6 hx (hb hby at_162) rfl rfl ?_
        refine o_iloadN X156_6 hx (hb hby at_163) rfl rfl ?_
        refine o_iconst X156_6 hx (hb hby at_164) (v := (2 : Int32)) rfl rfl ?_
        refine o_iushr X156_6 hx (hb hby at_165) rfl ?_
        have fE166_13 : Exa Z h156_6 b26 "java/util/ArrayList" := (qE_152_3.ext E156_6)
        have fE166_14 : Exa Z h156_6 b_129_4 "[Ljava/lang/Object;" := (qE_152_4.ext E156_6)
        have fE166_15 : Exa Z h156_6 b118_4 "com/example/hybrev/hybrev/RevocationEvent" := (((((qE_126_4.keep K129_4).ext E141_2).keep K149_2).keep K152_2).ext E156_6)
        have fE166_16 : Exa Z h156_6 b141_2 "com/example/hybrev/hybrev/RevocationEvent" := ((qE_149_2.keep K152_2).ext E156_6)
        refine o_staticF X156_6 hx hZ105_2 hown105_2 (wd31 hw) (wd32 hw) (by decide) (rm5 l Z a0 hw p2 (((p1.toUInt32 >>> ((2 : Int32) &&& 31).toUInt32).toInt32)) cs h156_6 n0 OE156_6 S_COMPACT_STRINGS hcs) (wd34 hw) (wd33 hw) e156_6 BE156_6 (own_EW hw) sl0 sl0 (by rw [hml]; rfl) (argsL := [(.int p2), (.int ((p1.toUInt32 >>> ((2 : Int32) &&& 31).toUInt32).toInt32))]) (rest := [(.ref b26), (.ref b156_6), (.ref b156_6)]) (W := 3) pd17 rfl rfl rfl rfl (hb hby at_166) (by decide) (by decide) (by decide) (by decide) (cells' := 23) (slots' := 55) rfl rfl rfl fun v166_6 s166_6 T166_6 h166_6 Lc166_6 X166_6 e166_6 B166_6 hZ166_6 hown166_6 hS166_6 hq166_6 => ?_
        obtain ⟨b_166_6, rfl, N166q_6, K166_6, hb_166_6, qE_166_6⟩ := hq166_6
        have N166_6 := Fr.app N152_2 N166q_6
        have s_b_166_6_h0 : h0.size ≤ b_166_6 := Nat.le_trans KE156_6_h0.1 hb_166_6
        have n_b_166_6 : n0 ≤ b_166_6 := Nat.le_trans (OE156_6.1 ▸ OE156_6.2.1) hb_166_6
        have KK166_6_h0 : Keep h0 h166_6 [] := KE156_6_h0.trans K166_6 all0
        have OK166_6 : Old Z n0 h166_6 := OE156_6.keep K166_6 all0
        have sf_b26_41 := hS166_6 b26 fE166_13.lt sf_b26_40
        have sf_b118_4_9 := hS166_6 b118_4 fE166_15.lt sf_b118_4_8
        have sf_b_129_4_7 := hS166_6 b_129_4 fE166_14.lt sf_b_129_4_6
        have sf_b141_2_6 := hS166_6 b141_2 fE166_16.lt sf_b141_2_5
        have sf_b156_6_2 := hS166_6 b156_6 A156_6.lt sf_b156_6
        show Goes p.tables e below (EndsH Z consts_1 s h0 (Q0 Z p0 p1 p2 p3 cs de kd el ea ke mo em mp tk us h0 n0) room_1.cells room_1.slots) (T166_6.setTop (mkF m 169 #[.val (.int p0), .val (.int p1), .val (.int p2), .val (.int p3), .val (.int (0 : Int32)), .unset, .val (.ref b26), .val (.int (2 : Int32)), .val (.int (1 : Int32)), .val (.ref tk), .val (.ref us), .val (.ref b_92_2), .val (.ref b_105_2)] [(.ref b_166_6), (.ref b26), (.ref b156_6), (.ref b156_6)]))
        have fE169_18 : Exa Z h166_6 b156_6 "com/example/hybrev/hybrev/EventPage" := (A156_6.keep K166_6)
        have fF169_19 : Fld Z h166_6 b156_6 "com/example/hybrev/hybrev/EventPage" "events" "Ljava/util/List;" .null := (Fb156_6_events.keep K166_6 nin0)
        have fF169_20 : Fld Z h166_6 b156_6 "com/example/hybrev/hybrev/EventPage" "next" "Ljava/lang/String;" .null := (Fb156_6_next.keep K166_6 nin0)
        have fE169_19 : Exa Z h166_6 b26 "java/util/ArrayList" := (fE166_13.keep K166_6)
        have fF169_21 : Fld Z h166_6 b26 "java/util/ArrayList" "elementData" "[Ljava/lang/Object;" (.ref b_129_4) := ((qF_152_4.ext E156_6).keep K166_6 nin0)
        have fF169_22 : Fld Z h166_6 b26 "java/util/ArrayList" "size" "I" (.int (2 : Int32)) := ((qF_152_5.ext E156_6).keep K166_6 nin0)
        have fE169_20 : Exa Z h166_6 b_129_4 "[Ljava/lang/Object;" := (fE166_14.keep K166_6)
        have fA169_4 : Arv Z h166_6 b_129_4 k_129_4 (.object "java/lang/Object") (10 : Int32) [(.ref b118_4), (.ref b141_2), .null, .null, .null, .null, .null, .null, .null, .null] .null := ((qA_152_2.ext E156_6).keep K166_6 nin0)
        have fE169_21 : Exa Z h166_6 b118_4 "com/example/hybrev/hybrev/RevocationEvent" := (fE166_15.keep K166_6)
        have fE169_22 : Exa Z h166_6 b141_2 "com/example/hybrev/hybrev/RevocationEvent" := (fE166_16.keep K166_6)
        refine o_specialF X166_6 hx hZ166_6 rfl rfl hown166_6 (wd58 hw) (wd59 hw) (by decide) (a := b156_6) (rmepi2 l Z a0 hw b156_6 b_166_6 b26 b_129_4 k_129_4 b118_4 b141_2 mo em h166_6 n0 OK166_6 fE169_18 fF169_19 fF169_20 qE_166_6 fE169_19 fF169_21 fF169_22 fE169_20 fA169_4 fE169_21 fE169_22 hM S_EMPTY n_b156_6 (Ne.symm (Nat.ne_of_lt (Nat.lt_of_lt_of_le qF_152_6.lt (Nat.le_of_eq g156_6.symm)))) (Ne.symm (Nat.ne_of_lt (Nat.lt_of_lt_of_le (Nat.lt_of_lt_of_le (Nat.lt_of_lt_of_le (Nat.lt_of_lt_of_le qE_129_8.lt E141_2.1) K149_2.1) K152_2.1) (Nat.le_of_eq g156_6.symm))))) (wd60 hw) (wd57 hw) e166_6 B166_6 (own_EW hw) (slS fE169_18.lt sl0) (slS sf_b156_6_2 sl0) (by rw [hml]; rfl) (argsL := [(.ref b26), (.ref b_166_6)]) (rest := [(.ref b156_6)]) (W := 1) pd18 rfl rfl rfl rfl (hb hby at_169) (by decide) (by decide) (by decide) (by decide) (cells' := 27) (slots' := 79) rfl rfl rfl fun v169_6 s169_6 T169_6 h169_6 Lc169_6 X169_6 e169_6 B169_6 hZ169_6 hown169_6 hS169_6 hq169_6 => ?_
        obtain ⟨rfl, N169q_6, K169_6, qE_169_6, qF_169_6⟩ := hq169_6
        have N169_6 := Fr.app N166_6 N169q_6
        have KK169_6_h0 : Keep h0 h169_6 [] := KK166_6_h0.trans K169_6 (allS (Or.inr s_b156_6_h0) all0)
        have OK169_6 : Old Z n0 h169_6 := OK166_6.keep K169_6 (allS n_b156_6 all0)
        have sf_b26_42 := hS169_6 b26 fE169_19.lt sf_b26_41
        have sf_b118_4_10 := hS169_6 b118_4 fE169_21.lt sf_b118_4_9
        have sf_b_129_4_8 := hS169_6 b_129_4 fE169_20.lt sf_b_129_4_7
        have sf_b141_2_7 := hS169_6 b141_2 fE169_22.lt sf_b141_2_6
        have sf_b156_6_3 := hS169_6 b156_6 fE169_18.lt sf_b156_6_2
        show Goes p.tables e below (EndsH Z consts_1 s h0 (Q0 Z p0 p1 p2 p3 cs de kd el ea ke mo em mp tk us h0 n0) room_1.cells room_1.slots) (T169_6.setTop (mkF m 172 #[.val (.int p0), .val (.int p1), .val (.int p2), .val (.int p3), .val (.int (0 : Int32)), .unset, .val (.ref b26), .val (.int (2 : Int32)), .val (.int (1 : Int32)), .val (.ref tk), .val (.ref us), .val (.ref b_92_2), .val (.ref b_105_2)] [(.ref b156_6)]))
        refine o_astore X169_6 hx (hb hby at_172) rfl (L' := #[.val (.int p0), .val (.int p1), .val (.int p2), .val (.int p3), .val (.int (0 : Int32)), .val (.ref b156_6), .val (.ref b26), .val (.int (2 : Int32)), .val (.int (1 : Int32)), .val (.ref tk), .val (.ref us), .val (.ref b_92_2), .val (.ref b_105_2)]) rfl rfl ?_
        refine o_aload X169_6 hx (hb hby at_174) rfl rfl rfl ?_
        refine o_virtual X169_6 hx hZ169_6 (C := "com/example/hybrev/hybrev/EventPage") hown169_6 (wd101 hw) (wd102 hw) (notFace_of_selects (args := #[]) (mvT hZ169_6 (wd104 hw))) (wd104 hw) (wd103 hw) (by decide) qE_169_6 (rmimR l Z a0 hw b156_6 b_166_6 h169_6 n0 OK169_6 qF_169_6) (wd105 hw) (wd57 hw) e169_6 (by rw [hml]; rfl) (argsL := []) (rest := []) (W := 0) pd12 rfl rfl rfl rfl (hb hby at_176) (by decide) (by decide) (by decide) (by decide) (cells' := 27) (slots' := 79) rfl rfl rfl fun v176_6 T176_6 h176_6 Lc176_6 X176_6 e176_11 hq176_6 => ?_
        obtain ⟨rfl, N176q_6, K176_6⟩ := hq176_6
        have N176_6 := Fr.app N169_6 N176q_6
        have e176_12 : T176_6.heap = h169_6 := e176_11.trans K176_6
        show Goes p.tables e below (EndsH Z consts_1 s h0 (Q0 Z p0 p1 p2 p3 cs de kd el ea ke mo em mp tk us h0 n0) room_1.cells room_1.slots) (T176_6.setTop (mkF m 179 #[.val (.int p0), .val (.int p1), .val (.int p2), .val (.int p3), .val (.int (0 : Int32)), .val (.ref b156_6), .val (.ref b26), .val (.int (2 : Int32)), .val (.int (1 : Int32)), .val (.ref tk), .val (.ref us), .val (.ref b_92_2), .val (.ref b_105_2)] [(.int (0 : Int32))]))
        refine o_istore X176_6 hx (hb hby at_179) (L' := #[.val (.int p0), .val (.int p1), .val (.int p2), .val (.int p3), .val (.int (0 : Int32)), .val (.ref b156_6), .val (.int (0 : Int32)), .val (.int (2 : Int32)), .val (.int (1 : Int32)), .val (.ref tk), .val (.ref us), .val (.ref b_92_2), .val (.ref b_105_2)]) rfl rfl ?_
        refine o_iload X176_6 hx (hb hby at_181) rfl rfl ?_
        refine o_iload X176_6 hx (hb hby at_183) rfl rfl ?_
        refine o_icmpYes X176_6 hx (hb hby at_185) (teq (by decide)).1 (by decide) (pc' := 190) (by decide) ?_
        refine o_iload X176_6 hx (hb hby at_190) rfl rfl ?_
        refine o_aload X176_6 hx (hb hby at_192) rfl rfl rfl ?_
        refine o_virtual X176_6 hx hZ169_6 (C := "com/example/hybrev/hybrev/EventPage") hown169_6 (wd106 hw) (wd107 hw) (notFace_of_selects (args := #[]) (mvT hZ169_6 (wd109 hw))) (wd109 hw) (wd108 hw) (by decide) qE_169_6 (rmgnR l Z a0 hw b156_6 b_166_6 h169_6 n0 OK169_6 qF_169_6) (wd110 hw) (wd57 hw) e176_12 (by rw [hml]; rfl) (argsL := []) (rest := [(.int (0 : Int32))]) (W := 1) pd19 rfl rfl rfl rfl (hb hby at_194) (by decide) (by decide) (by decide) (by decide) (cells' := 27) (slots' := 79) rfl rfl rfl fun v194_6 T194_6 h194_6 Lc194_6 X194_6 e194_11 hq194_6 => ?_
        obtain ⟨rfl, N194q_6, K194_6⟩ := hq194_6
        have N194_6 := Fr.app N176_6 N194q_6
        have e194_12 : T194_6.heap = h169_6 := e194_11.trans K194_6
        show Goes p.tables e below (EndsH Z consts_1 s h0 (Q0 Z p0 p1 p2 p3 cs de kd el ea ke mo em mp tk us h0 n0) room_1.cells room_1.slots) (T194_6.setTop (mkF m 197 #[.val (.int p0), .val (.int p1), .val (.int p2), .val (.int p3), .val (.int (0 : Int32)), .val (.ref b156_6), .val (.int (0 : Int32)), .val (.int (2 : Int32)), .val (.int (1 : Int32)), .val (.ref tk), .val (.ref us), .val (.ref b_92_2), .val (.ref b_105_2)] [(.ref b_166_6), (.int (0 : Int32))]))
        refine o_ifnonnullYes X194_6 hx (hb hby at_197) (by decide) (pc' := 204) (by decide) ?_
        refine o_iconst X194_6 hx (hb hby at_204) (v := (0 : Int32)) rfl rfl ?_
        refine o_icmpYes X194_6 hx (hb hby at_205) (teq (by decide)).1 (by decide) (pc' := 210) (by decide) ?_
        refine o_iload X194_6 hx (hb hby at_210) rfl rfl ?_
        refine o_ifYes X194_6 hx (hb hby at_212) ((if0 _ _).trans (teq (by decide)).1) (by decide) (pc' := 230) (by decide) ?_
        refine o_iconst X194_6 hx (hb hby at_230) (v := (1 : Int32)) rfl rfl ?_
        exact o_retH X194_6 hx hlk (t := .boolean) hret rfl (Or.inl ⟨rfl, by decide, _, rfl⟩) (hb hby at_231) (by decide) (by decide) e194_12 hZ169_6 (own_EW hw) B169_6 ⟨rfl, N194_6, KK169_6_h0⟩
  ·
    refine o_ifNo X0 hx (hb hby at_3) ((if0 _ _).trans (feq hc3).1) rfl ?_
    refine o_iconst X0 hx (hb hby at_6) (v := (1 : Int32)) rfl rfl ?_
    refine o_goto X0 hx (hb hby at_7) (by decide) (pc' := 11) (by decide) ?_
    refine o_istore X0 hx (hb hby at_11) (L' := #[.val (.int p0), .val (.int p1), .val (.int p2), .val (.int p3), .val (.int (1 : Int32)), .unset, .unset, .unset, .unset, .unset, .unset, .unset, .unset]) rfl rfl ?_
    refine o_iload X0 hx (hb hby at_13) rfl rfl ?_
    refine o_ifNo X0 hx (hb hby at_15) ((if0 _ _).trans (feq (by decide)).1) rfl ?_
    refine o_static X0 hx hZ hown (wd111 hw) (wd112 hw) (by decide) (rm16 l Z a0 hw mp h0 n0 O0 S_MISSED) (wd113 hw) (wd57 hw) e0 (by rw [hml]; rfl) (argsL := []) (rest := []) (W := 0) pd22 rfl rfl rfl rfl (hb hby at_18) (by decide) (by decide) (by decide) (by decide) (cells' := 0) (slots' := 0) rfl rfl rfl fun v18 T18 h18 Lc18 X18 e18 hq18 => ?_
    obtain ⟨rfl, N18q, K18⟩ := hq18
    have N18 := Fr.app N0 N18q
    have e18_2 : T18.heap = h0 := e18.trans K18
    show Goes p.tables e below (EndsH Z consts_1 s h0 (Q0 Z p0 p1 p2 p3 cs de kd el ea ke mo em mp tk us h0 n0) room_1.cells room_1.slots) (T18.setTop (mkF m 21 #[.val (.int p0), .val (.int p1), .val (.int p2), .val (.int p3), .val (.int (1 : Int32)), .unset, .unset, .unset, .unset, .unset, .unset, .unset, .unset] [(.ref mp)]))
    refine o_astore X18 hx (hb hby at_21) rfl (L' := #[.val (.int p0), .val (.int p1), .val (.int p2), .val (.int p3), .val (.int (1 : Int32)), .val (.ref mp), .unset, .unset, .unset, .unset, .unset, .unset, .unset]) rfl rfl ?_
    refine o_goto X18 hx (hb hby at_23) (by decide) (pc' := 174) (by decide) ?_
    refine o_aload X18 hx (hb hby at_174) rfl rfl rfl ?_
    refine o_virtual X18 hx hZ (C := "com/example/hybrev/hybrev/EventPage") hown (wd101 hw) (wd102 hw) (notFace_of_selects (args := #[]) (mvT hZ (wd104 hw))) (wd104 hw) (wd103 hw) (by decide) E_mp (rmimN l Z a0 hw mp h0 n0 O0 F_mp_next) (wd105 hw) (wd57 hw) e18_2 (by rw [hml]; rfl) (argsL := []) (rest := []) (W := 0) pd12 rfl rfl rfl rfl (hb hby at_176) (by decide) (by decide) (by decide) (by decide) (cells' := 0) (slots' := 0) rfl rfl rfl fun v176_7 T176_7 h176_7 Lc176_7 X176_7 e176_13 hq176_7 => ?_
    obtain ⟨rfl, N176q_7, K176_7⟩ := hq176_7
    have N176_7 := Fr.app N18 N176q_7
    have e176_14 : T176_7.heap = h0 := e176_13.trans K176_7
    show Goes p.tables e below (EndsH Z consts_1 s h0 (Q0 Z p0 p1 p2 p3 cs de kd el ea ke mo em mp tk us h0 n0) room_1.cells room_1.slots) (T176_7.setTop (mkF m 179 #[.val (.int p0), .val (.int p1), .val (.int p2), .val (.int p3), .val (.int (1 : Int32)), .val (.ref mp), .unset, .unset, .unset, .unset, .unset, .unset, .unset] [(.int (1 : Int32))]))
    refine o_istore X176_7 hx (hb hby at_179) (L' := #[.val (.int p0), .val (.int p1), .val (.int p2), .val (.int p3), .val (.int (1 : Int32)), .val (.ref mp), .val (.int (1 : Int32)), .unset, .unset, .unset, .unset, .unset, .unset]) rfl rfl ?_
    refine o_iload X176_7 hx (hb hby at_181) rfl rfl ?_
    refine o_iload X176_7 hx (hb hby at_183) rfl rfl ?_
    refine o_icmpYes X176_7 hx (hb hby at_185) (teq (by decide)).1 (by decide) (pc' := 190) (by decide) ?_
    refine o_iload X176_7 hx (hb hby at_190) rfl rfl ?_
    refine o_aload X176_7 hx (hb hby at_192) rfl rfl rfl ?_
    refine o_virtual X176_7 hx hZ (C := "com/example/hybrev/hybrev/EventPage") hown (wd106 hw) (wd107 hw) (notFace_of_selects (args := #[]) (mvT hZ (wd109 hw))) (wd109 hw) (wd108 hw) (by decide) E_mp (rmgnN l Z a0 hw mp h0 n0 O0 F_mp_next) (wd110 hw) (wd57 hw) e176_14 (by rw [hml]; rfl) (argsL := []) (rest := [(.int (1 : Int32))]) (W := 1) pd19 rfl rfl rfl rfl (hb hby at_194) (by decide) (by decide) (by decide) (by decide) (cells' := 0) (slots' := 0) rfl rfl rfl fun v194_7 T194_7 h194_7 Lc194_7 X194_7 e194_13 hq194_7 => ?_
    obtain ⟨rfl, N194q_7, K194_7⟩ := hq194_7
    have N194_7 := Fr.app N176_7 N194q_7
    have e194_14 : T194_7.heap = h0 := e194_13.trans K194_7
    show Goes p.tables e below (EndsH Z consts_1 s h0 (Q0 Z p0 p1 p2 p3 cs de kd el ea ke mo em mp tk us h0 n0) room_1.cells room_1.slots) (T194_7.setTop (mkF m 197 #[.val (.int p0), .val (.int p1), .val (.int p2), .val (.int p3), .val (.int (1 : Int32)), .val (.ref mp), .val (.int (1 : Int32)), .unset, .unset, .unset, .unset, .unset, .unset] [.null, (.int (1 : Int32))]))
    refine o_ifnonnullNo X194_7 hx (hb hby at_197) rfl ?_
    refine o_iconst X194_7 hx (hb hby at_200) (v := (1 : Int32)) rfl rfl ?_
    refine o_goto X194_7 hx (hb hby at_201) (by decide) (pc' := 205) (by decide) ?_
    refine o_icmpYes X194_7 hx (hb hby at_205) (teq (by decide)).1 (by decide) (pc' := 210) (by decide) ?_
    refine o_iload X194_7 hx (hb hby at_210) rfl rfl ?_
    refine o_ifNo X194_7 hx (hb hby at_212) ((if0 _ _).trans (feq (by decide)).1) rfl ?_
    refine o_aload X194_7 hx (hb hby at_215) rfl rfl rfl ?_
    refine o_virtual X194_7 hx hZ (C := "com/example/hybrev/hybrev/EventPage") hown (wd116 hw) (wd117 hw) (notFace_of_selects (args := #[]) (mvT hZ (wd119 hw))) (wd119 hw) (wd118 hw) (by decide) E_mp (rm17 l Z a0 hw mp el h0 n0 O0 F_mp_events) (wd120 hw) (wd57 hw) e194_14 (by rw [hml]; rfl) (argsL := []) (rest := []) (W := 0) pd13 rfl rfl rfl rfl (hb hby at_217) (by decide) (by decide) (by decide) (by decide) (cells' := 0) (slots' := 0) rfl rfl rfl fun v217 T217 h217 Lc217 X217 e217 hq217 => ?_
    obtain ⟨rfl, N217q, K217⟩ := hq217
    have N217 := Fr.app N194_7 N217q
    have e217_2 : T217.heap = h0 := e217.trans K217
    show Goes p.tables e below (EndsH Z consts_1 s h0 (Q0 Z p0 p1 p2 p3 cs de kd el ea ke mo em mp tk us h0 n0) room_1.cells room_1.slots) (T217.setTop (mkF m 220 #[.val (.int p0), .val (.int p1), .val (.int p2), .val (.int p3), .val (.int (1 : Int32)), .val (.ref mp), .val (.int (1 : Int32)), .unset, .unset, .unset, .unset, .unset, .unset] [(.ref el)]))
    refine o_iface X217 hx hZ (C := "java/util/ImmutableCollections$ListN") hown (wd121 hw) (wd122 hw) (mvT hZ (wd123 hw)) (wd124 hw) (wd125 hw) (wd126 hw) (wd127 hw) (wd128 hw) (by decide) E_el (rm18 l Z a0 hw el ea ke h0 n0 O0 F_el_elements A_ea) (wd130 hw) (wd129 hw) e217_2 (by rw [hml]; rfl) (argsL := []) (rest := []) (W := 0) pd12 rfl rfl rfl rfl (hb hby at_220) (by decide) (by decide) (by decide) (by decide) (cells' := 0) (slots' := 0) rfl rfl rfl fun v220 T220 h220 Lc220 X220 e220 hq220 => ?_
    obtain ⟨rfl, N220q, K220⟩ := hq220
    have N220 := Fr.app N217 N220q
    have e220_2 : T220.heap = h0 := e220.trans K220
    show Goes p.tables e below (EndsH Z consts_1 s h0 (Q0 Z p0 p1 p2 p3 cs de kd el ea ke mo em mp tk us h0 n0) room_1.cells room_1.slots) (T220.setTop (mkF m 225 #[.val (.int p0), .val (.int p1), .val (.int p2), .val (.int p3), .val (.int (1 : Int32)), .val (.ref mp), .val (.int (1 : Int32)), .unset, .unset, .unset, .unset, .unset, .unset] [(.int (1 : Int32))]))
    refine o_ifYes X220 hx (hb hby at_225) ((if0 _ _).trans (feq (by decide)).2) (by decide) (pc' := 230) (by decide) ?_
    refine o_iconst X220 hx (hb hby at_230) (v := (1 : Int32)) rfl rfl ?_
    exact o_retH X220 hx hlk (t := .boolean) hret rfl (Or.inl ⟨rfl, by decide, _, rfl⟩) (hb hby at_231) (by decide) (by decide) e220_2 hZ (own_EW hw) B0 ⟨rfl, N220, KK0⟩
set_option maxRecDepth 65536 in
set_option maxHeartbeats 40000000 in
theorem comes_1 {Post : Tables → Env → Array Value → State → Outcome → State → Prop} (hpost : ∀ tb e args s v u, (limb_1_1.after args s (.returned v) u = true ∧ limb_1_2.after args s (.returned v) u = true ∧ True) → ReturnedEndW s (.returned v) u (Jvm.fieldLocs frame_1_writes args s ++ Jvm.arrayLocs frame_1_arrays args s ++ Jvm.staticLocs frame_1_statics s) 48 2240 → Post tb e args s (.returned v) u) :
    ArmFor flags0 classFile x code maxLocals ret World_1 tables_1 room_1 Calls_1 rest_1 Pre_1 Post := by
  intro l hfl _ _ p e ha hc hk s m args below hf hA hF happ hP
  obtain ⟨hcalls, hrest, hpre⟩ := hP
  obtain ⟨-, -, -, hnamed, -, -, -, hat⟩ := (Spec.applies_iff hf).mp happ
  obtain ⟨hg, hn⟩ := and_e (Cond.before_iff.mp (show (Jvm.Cond.and given_1 narrow_1).before args s = true from hpre))
  obtain ⟨u1a, u1b⟩ := and_e hg
  obtain ⟨u2a, u2b⟩ := and_e u1b
  obtain ⟨u3a, u3b⟩ := and_e u2b
  obtain ⟨u4a, u4b⟩ := and_e u3b
  obtain ⟨u5a, u5b⟩ := and_e hn
  obtain ⟨u6a, u6b⟩ := and_e u5b
  obtain ⟨u7a, u7b⟩ := and_e u6b
  obtain ⟨u8a, u8b⟩ := and_e u7b
  obtain ⟨w0, w1, w2, w3, rfl⟩ : ∃ w0 w1 w2 w3 : Value, args = #[w0, w1, w2, w3] := by
    have hs : args.size = 4 := by simpa [Cond.value, given_1] using u1a
    obtain ⟨L⟩ := args
    match L, hs with
    | [w0, w1, w2, w3], _ => exact ⟨w0, w1, w2, w3, rfl⟩
  have hw := fun d (hd : d ∈ tables_1) => atoms_spec (ws := Jvm.Cond.code x code maxLocals ret :: tables_1) hat d (List.mem_cons_of_mem _ hd)
  have hfit : Fit s := fun {y c} hc i hi => by
    obtain ⟨ha, rfl⟩ := Array.getElem?_eq_some_iff.mp hc
    have q := List.all_eq_true.mp ((Array.all_eq_true_iff_forall_mem.mp hF) _ (Array.getElem_mem ha)) i (List.mem_range.mpr hi)
    simpa [Array.getElem?_eq_getElem hi] using q
  obtain ⟨hsets, hown0⟩ := atoms_of _ (rest_1_c_eq ▸ (show rest_1_c.before _ s = true from hrest))
  obtain ⟨i0, ei0⟩ := is_v u2a
  obtain rfl : w0 = (.int i0) := Option.some.inj ei0
  obtain ⟨i1, ei1⟩ := is_v u3a
  obtain rfl : w1 = (.int i1) := Option.some.inj ei1
  obtain ⟨i2, ei2⟩ := is_v u4a
  obtain rfl : w2 = (.int i2) := Option.some.inj ei2
  obtain ⟨i3, ei3⟩ := is_v u4b
  obtain rfl : w3 = (.int i3) := Option.some.inj ei3
  obtain ⟨cs0, ecs⟩ := is_v (Cond.before_iff.mp (hsets _ (List.mem_of_getElem? (i := 17) rfl)))
  have Scs : Sta s s.heap "java/lang/String" "COMPACT_STRINGS" "Z" (.int cs0) := Sta.start ecs (Or.inl (hsets _ (List.mem_of_getElem? (i := 16) rfl)))
  have hcs0 : ¬ (cs0 = (0 : Int32)) := gotF (Cond.eq_ints ecs (Term.int_eval (0))) (not_v (Cond.before_iff.mp (hsets _ (List.mem_of_getElem? (i := 18) rfl))))
  obtain ⟨de0, ede⟩ := exa_v (Cond.before_iff.mp (hsets _ (List.mem_of_getElem? (i := 7) rfl)))
  have Ede := Exa.start ede (Cond.before_iff.mp (hsets _ (List.mem_of_getElem? (i := 7) rfl)))
  have Sde : Sta s s.heap "java/util/ArrayList" "DEFAULTCAPACITY_EMPTY_ELEMENTDATA" "[Ljava/lang/Object;" (.ref de0) := Sta.start ede (Or.inr ⟨(wd2 hw), (hsets _ (List.mem_of_getElem? (i := 2) rfl))⟩)
  obtain ⟨kd0, Ade⟩ := own_arv0 (dv := .null) hfit ede (Cond.before_iff.mp (hsets _ (List.mem_of_getElem? (i := 6) rfl))) (eqv_i (Term.int_eval (0)) (Cond.before_iff.mp (hsets _ (List.mem_of_getElem? (i := 8) rfl))))
  obtain ⟨el0, eel⟩ := exa_v (Cond.before_iff.mp (hsets _ (List.mem_of_getElem? (i := 11) rfl)))
  have Eel := Exa.start eel (Cond.before_iff.mp (hsets _ (List.mem_of_getElem? (i := 11) rfl)))
  have Sel0 : Sta s s.heap "java/util/ImmutableCollections" "EMPTY_LIST" "Ljava/util/ImmutableCollections$ListN;" (.ref el0) := Sta.start eel (Or.inl (hsets _ (List.mem_of_getElem? (i := 10) rfl)))
  obtain ⟨ea0, eea⟩ := arr_v (Cond.before_iff.mp (hsets _ (List.mem_of_getElem? (i := 12) rfl)))
  have Fea := own_fld eel eea
  obtain ⟨ke0, Aea⟩ := own_arv0 (dv := .null) hfit eea (Cond.before_iff.mp (hsets _ (List.mem_of_getElem? (i := 12) rfl))) (eqv_i (Term.int_eval (0)) (Cond.before_iff.mp (hsets _ (List.mem_of_getElem? (i := 14) rfl))))
  obtain ⟨em0, eem⟩ := exa_v (Cond.before_iff.mp (hsets _ (List.mem_of_getElem? (i := 27) rfl)))
  have Sem : Sta s s.heap "java/util/ImmutableCollections" "EMPTY" "Ljava/lang/Object;" (.ref em0) := Sta.start eem (Or.inl (hsets _ (List.mem_of_getElem? (i := 26) rfl)))
  obtain ⟨mp0, emp⟩ := exa_v u7a
  have Emp := Exa.start emp u7a
  have Smp : Sta s s.heap "com/example/hybrev/hybrev/EventPage" "MISSED" "Lcom/example/hybrev/hybrev/EventPage;" (.ref mp0) := Sta.start emp (Or.inr ⟨(wd57 hw), (wd115 hw)⟩)
  have Fnx := own_fld emp (null_v u8a)
  have Fev := own_fld emp (own_eqr eel u8b)
  obtain ⟨tk0, etk⟩ := exa_v u5a
  have Stk : Sta s s.heap "com/example/hybrev/hybrev/RevocationEvent$Kind" "TOKEN" "Lcom/example/hybrev/hybrev/RevocationEvent$Kind;" (.ref tk0) := Sta.start etk (Or.inr ⟨(wd27 hw), (wd28 hw)⟩)
  obtain ⟨us0, eus⟩ := exa_v u6a
  have Sus : Sta s s.heap "com/example/hybrev/hybrev/RevocationEvent$Kind" "USER" "Lcom/example/hybrev/hybrev/RevocationEvent$Kind;" (.ref us0) := Sta.start eus (Or.inr ⟨(wd27 hw), (wd30 hw)⟩)
  obtain ⟨cm, km, mo0, hm1, hm2, hm3, hm4⟩ := hcalls.1
  have hM0 : Mir s "[Ljava/lang/Object;" mo0 := ⟨cm, km, hm1, hm2, hm3, hm4⟩
  have hcw0 : Jvm.Lit.compactW.before #[.int i0, .int i1, .int i2, .int i3] s = true := (hsets _ (List.mem_of_getElem? (i := 18) rfl))
  obtain ⟨n, o, h1, h2, h3, _, L, rfl, ⟨rfl, N, -⟩, -, hq⟩ := rm0 l s _ hw tables_1 i0 i1 i2 i3 cs0 de0 kd0 el0 ea0 ke0 mo0 em0 mp0 tk0 us0 s.heap s.heap.size (Old.start s) Scs hcs0 Sde Ede Ade Sel0 Eel Fea Aea Sem hM0 Smp Emp Fnx Fev Stk Sus p e ha hc hk s m _ below hf ((Spec.applies_iff_loose hf).mp happ).1 ⟨rfl, State.Warmed39.refl s, rfl, own_CH hw hcalls hcw0, sl0⟩ trivial
  refine ⟨n, _, h1, h2, h3, hpost _ _ _ _ _ _ ⟨Cond.after_iff.mpr rfl, Cond.after_iff.mpr (eq_i res_at (Term.int_eval (1)) rfl), trivial⟩ ⟨hq.1, hq.2.1, hq.2.2.1, (hq.2.2.2.sift fun y hy => Or.inr (N y hy)).mono (by decide) (by decide)⟩⟩
theorem main_1_1 : Claimed_1_1 := comes_1 fun _ _ _ _ _ _ h hF => ⟨h.1, hF⟩
theorem main_1_2 : Claimed_1_2 := comes_1 fun _ _ _ _ _ _ h hF => ⟨h.2.1, hF⟩
end Jvm.Pilot.@@N@@
namespace Jvm.Pilot.@@N@@
open Jvm Jvm.ClassFile Sem Op Lib Jvm.Free Jvm.Stand Jvm.Pilot.@@N@@.Jvm.D
/-! MADE BY PROGRAM (witnessworld.py) out of the Statement's table words and the real class files: 41 classes; the members and pool entries that the words name. The judged class is class 1, her method 1. -/
namespace start1
open Jvm.ClassFile
def u (s : String) : CpInfo := .utf8 (stringToUtf16 s)
/-- a pool by its gaps: so many unusable entries, then the entry; so many at the end -/
def gap : Nat → List CpInfo → List CpInfo
  | 0, r => r
  | n + 1, r => .unusable :: gap n r
def poolList (es : List (Nat × CpInfo)) (last : Nat) : List CpInfo := es.foldr (fun e r => gap e.1 (e.2 :: r)) (gap last [])
def pool (es : List (Nat × CpInfo)) (last : Nat) : Array CpInfo := ⟨poolList es last⟩
def fileOf (pool : Array CpInfo) (this : Nat) (attrs : Array Attribute := #[]) (ms : Array MethodInfo := #[]) (fl : Nat := 33) (sup : Nat := 0) (ifs : Array Nat := #[]) (fds : Array FieldInfo := #[]) : ClassFile where
  minorVersion := 0
  majorVersion := 65
  constantPool := pool
  accessFlags := fl
  thisClass := this
  superClass := sup
  interfaces := ifs
  fields := fds
  methods := ms
  attributes := attrs
def plain (name : String) (sup : Option ClassId) : Class where
  name := name
  kind := .ordinary
  loader := none
  accessFlags := 33
  super := sup
  interfaces := #[]
  cf := none
  fields := #[]
  methods := #[]
  instanceTypes := #[]
  staticTypes := #[]
  resolved := #[]
  callSites := []
  init := .initialized
  statics := none
  mirror := none

def pool0 : Array CpInfo := pool [(5, u "<init>"), (0, u "()V"), (1, .class_ 10), (1, u "java/lang/Object"), (0, u "getClass"), (0, u "()Ljava/lang/Class;")] 111

def k0c0 : Code := { maxStack := 0, maxLocals := 1, code := object_method_1_code, exceptionTable := #[], attributes := #[] }
def k0m0 : Method := { name := "<init>", desc := "()V", sig := { parameters := [], returnType := none }, accessFlags := 1, code := some k0c0 }
def k0m1 : Method := { name := "getClass", desc := "()Ljava/lang/Class;", sig := { parameters := [], returnType := some (.object "java/lang/Class") }, accessFlags := 273, code := none }
/-- java/lang/Object -/
def k0 : Class := { plain "java/lang/Object" none with
  accessFlags := 33
  interfaces := #[]
  cf := some (fileOf pool0 8 #[] #[{ accessFlags := 1, nameIndex := 5, descriptorIndex := 6, attributes := #[] }, { accessFlags := 273, nameIndex := 11, descriptorIndex := 12, attributes := #[] }] 33 0 #[] #[])
  fields := #[]
  methods := #[k0m0, k0m1]
  instanceTypes := #[]
  staticTypes := #[]
  resolved := Array.replicate 124 none
  statics := none }

def pool1 : Array CpInfo := pool [(2, .class_ 4), (0, .nameAndType 5 6), (0, u "java/lang/Object"), (0, u "<init>"), (0, u "()V"), (0, .methodref 8 9), (0, .class_ 10), (0, .nameAndType 11 12), (0, u "com/example/hybrev/hybrev/EventPage"), (0, u "missed"), (0, u "()Lcom/example/hybrev/hybrev/EventPage;"), (0, .class_ 14), (0, u "java/util/ArrayList"), (0, .methodref 13 3), (0, .fieldref 17 18), (0, .class_ 19), (0, .nameAndType 20 21), (0, u "com/example/hybrev/hybrev/RevocationEvent$Kind"), (0, u "TOKEN"), (0, u "Lcom/example/hybrev/hybrev/RevocationEvent$Kind;"), (0, .fieldref 17 23), (0, .nameAndType 24 21), (0, u "USER"), (0, .methodref 26 27), (0, .class_ 28), (0, .nameAndType 29 30), (0, u "com/example/hybrev/hybrev/EventPageIsMissedPinLaw"), (0, u "str"), (0, u "(II)Ljava/lang/String;"), (0, .class_ 32), (0, u "com/example/hybrev/hybrev/RevocationEvent"), (0, .methodref 31 34), (0, .nameAndType 5 35), (0, u "(Lcom/example/hybrev/hybrev/RevocationEvent$Kind;Ljava/lang/String;)V"), (0, .methodref 13 37), (0, .nameAndType 38 39), (0, u "add"), (0, u "(Ljava/lang/Object;)Z"), (0, .methodref 8 41), (0, .nameAndType 5 42), (0, u "(Ljava/util/List;Ljava/lang/String;)V"), (0, .methodref 8 44), (0, .nameAndType 45 46), (0, u "isMissed"), (0, u "()Z"), (0, .methodref 8 48), (0, .nameAndType 49 50), (0, u "getNext"), (0, u "()Ljava/lang/String;"), (0, .methodref 8 52), (0, .nameAndType 53 54), (0, u "getEvents"), (0, u "()Ljava/util/List;"), (0, .interfaceMethodref 56 57), (0, .class_ 58), (0, .nameAndType 59 46), (0, u "java/util/List"), (0, u "isEmpty"), (0, .class_ 61), (0, u "java/lang/String"), (0, .methodref 60 63), (0, .nameAndType 5 64), (0, u "([C)V"), (2, u "law"), (0, u "(IIII)Z")] 5

def k1m0 : Method := { name := "<init>", desc := "()V", sig := { parameters := [], returnType := none }, accessFlags := 1, code := none }
def k1c1 : Code := { maxStack := 6, maxLocals := 13, code := code, exceptionTable := #[], attributes := #[] }
def k1m1 : Method := { name := "law", desc := "(IIII)Z", sig := { parameters := [.int, .int, .int, .int], returnType := some .boolean }, accessFlags := 9, code := some k1c1 }
def k1c2 : Code := { maxStack := 3, maxLocals := 7, code := method_3_code, exceptionTable := #[], attributes := #[] }
def k1m2 : Method := { name := "str", desc := "(II)Ljava/lang/String;", sig := { parameters := [.int, .int], returnType := some (.object "java/lang/String") }, accessFlags := 10, code := some k1c2 }
/-- com/example/hybrev/hybrev/EventPageIsMissedPinLaw -/
def k1 : Class := { plain "com/example/hybrev/hybrev/EventPageIsMissedPinLaw" (some 0) with
  accessFlags := 49
  interfaces := #[]
  cf := some (fileOf pool1 26 #[] #[{ accessFlags := 1, nameIndex := 5, descriptorIndex := 6, attributes := #[] }, { accessFlags := 9, nameIndex := 67, descriptorIndex := 68, attributes := #[] }, { accessFlags := 10, nameIndex := 29, descriptorIndex := 30, attributes := #[] }] 49 2 #[] #[])
  fields := #[]
  methods := #[k1m0, k1m1, k1m2]
  instanceTypes := #[]
  staticTypes := #[]
  resolved := Array.replicate 74 none
  statics := none }

def pool2 : Array CpInfo := pool [(8, .class_ 10), (1, u "java/lang/Iterable"), (24, .class_ 36), (0, u "java/lang/Object")] 25

/-- java/lang/Iterable -/
def k2 : Class := { plain "java/lang/Iterable" (some 0) with
  accessFlags := 1537
  interfaces := #[]
  cf := some (fileOf pool2 8 #[] #[] 1537 35 #[] #[])
  fields := #[]
  methods := #[]
  instanceTypes := #[]
  staticTypes := #[]
  resolved := Array.replicate 62 none
  statics := none }

def pool3 : Array CpInfo := pool [(10, .class_ 12), (1, u "java/util/Collection"), (0, u "toArray"), (16, u "()Z"), (29, .class_ 61), (0, u "java/lang/Object"), (0, .class_ 63), (0, u "java/lang/Iterable"), (2, u "isEmpty"), (3, u "()[Ljava/lang/Object;")] 44

def k3m0 : Method := { name := "isEmpty", desc := "()Z", sig := { parameters := [], returnType := some .boolean }, accessFlags := 1025, code := none }
def k3m1 : Method := { name := "toArray", desc := "()[Ljava/lang/Object;", sig := { parameters := [], returnType := some (.array (.object "java/lang/Object")) }, accessFlags := 1025, code := none }
/-- java/util/Collection -/
def k3 : Class := { plain "java/util/Collection" (some 0) with
  accessFlags := 1537
  interfaces := #[2]
  cf := some (fileOf pool3 10 #[] #[{ accessFlags := 1025, nameIndex := 66, descriptorIndex := 30, attributes := #[] }, { accessFlags := 1025, nameIndex := 13, descriptorIndex := 70, attributes := #[] }] 1537 60 #[62] #[])
  fields := #[]
  methods := #[k3m0, k3m1]
  instanceTypes := #[]
  staticTypes := #[]
  resolved := Array.replicate 115 none
  statics := none }

def pool4 : Array CpInfo := pool [(1, .methodref 2 3), (0, .class_ 4), (0, .nameAndType 5 6), (0, u "java/lang/Object"), (0, u "<init>"), (0, u "()V"), (1, .class_ 10), (1, u "java/util/AbstractCollection"), (66, .class_ 78), (0, u "java/util/Collection")] 81

def k4c0 : Code := { maxStack := 1, maxLocals := 1, code := jdk_22_method_1_code, exceptionTable := #[], attributes := #[] }
def k4m0 : Method := { name := "<init>", desc := "()V", sig := { parameters := [], returnType := none }, accessFlags := 4, code := some k4c0 }
/-- java/util/AbstractCollection -/
def k4 : Class := { plain "java/util/AbstractCollection" (some 0) with
  accessFlags := 1057
  interfaces := #[3]
  cf := some (fileOf pool4 8 #[] #[{ accessFlags := 4, nameIndex := 5, descriptorIndex := 6, attributes := #[] }] 1057 2 #[77] #[])
  fields := #[]
  methods := #[k4m0]
  instanceTypes := #[]
  staticTypes := #[]
  resolved := Array.replicate 160 none
  statics := none }

def pool5 : Array CpInfo := pool [(8, .class_ 10), (1, u "java/util/SequencedCollection"), (15, .class_ 27), (0, u "java/lang/Object"), (0, .class_ 29), (0, u "java/util/Collection")] 27

/-- java/util/SequencedCollection -/
def k5 : Class := { plain "java/util/SequencedCollection" (some 0) with
  accessFlags := 1537
  interfaces := #[3]
  cf := some (fileOf pool5 8 #[] #[] 1537 26 #[28] #[])
  fields := #[]
  methods := #[]
  instanceTypes := #[]
  staticTypes := #[]
  resolved := Array.replicate 57 none
  statics := none }

def pool6 : Array CpInfo := pool [(8, .class_ 10), (1, u "java/util/List"), (7, u "()Z"), (12, u "(Ljava/lang/Object;)V"), (16, u "<init>"), (18, u "isEmpty"), (20, u "of"), (1, .fieldref 91 92), (0, .class_ 93), (0, .nameAndType 94 95), (0, u "java/util/ImmutableCollections"), (0, u "EMPTY_LIST"), (0, u "Ljava/util/ImmutableCollections$ListN;"), (0, .class_ 97), (0, u "java/util/ImmutableCollections$List12"), (0, .methodref 96 99), (0, .nameAndType 48 31), (0, .methodref 96 101), (0, .nameAndType 48 102), (0, u "(Ljava/lang/Object;Ljava/lang/Object;)V"), (0, .class_ 104), (0, u "java/lang/Object"), (3, u "([Ljava/lang/Object;)Ljava/util/List;"), (3, .methodref 91 113), (0, .nameAndType 114 115), (0, u "listCopy"), (0, u "(Ljava/util/Collection;)Ljava/util/List;"), (3, u "()Ljava/util/List;"), (0, .class_ 121), (0, u "java/util/SequencedCollection"), (112, u "copyOf")] 16

def k6m0 : Method := { name := "isEmpty", desc := "()Z", sig := { parameters := [], returnType := some .boolean }, accessFlags := 1025, code := none }
def k6c1 : Code := { maxStack := 1, maxLocals := 0, code := jdk_40_method_36_code, exceptionTable := #[], attributes := #[] }
def k6m1 : Method := { name := "of", desc := "()Ljava/util/List;", sig := { parameters := [], returnType := some (.object "java/util/List") }, accessFlags := 9, code := some k6c1 }
def k6c2 : Code := { maxStack := 5, maxLocals := 2, code := jdk_40_method_47_code, exceptionTable := #[], attributes := #[] }
def k6m2 : Method := { name := "of", desc := "([Ljava/lang/Object;)Ljava/util/List;", sig := { parameters := [(.array (.object "java/lang/Object"))], returnType := some (.object "java/util/List") }, accessFlags := 137, code := some k6c2 }
def k6c3 : Code := { maxStack := 1, maxLocals := 1, code := jdk_40_method_48_code, exceptionTable := #[], attributes := #[] }
def k6m3 : Method := { name := "copyOf", desc := "(Ljava/util/Collection;)Ljava/util/List;", sig := { parameters := [(.object "java/util/Collection")], returnType := some (.object "java/util/List") }, accessFlags := 9, code := some k6c3 }
/-- java/util/List -/
def k6 : Class := { plain "java/util/List" (some 0) with
  accessFlags := 1537
  interfaces := #[5]
  cf := some (fileOf pool6 8 #[] #[{ accessFlags := 1025, nameIndex := 67, descriptorIndex := 18, attributes := #[] }, { accessFlags := 9, nameIndex := 88, descriptorIndex := 119, attributes := #[] }, { accessFlags := 137, nameIndex := 88, descriptorIndex := 108, attributes := #[] }, { accessFlags := 9, nameIndex := 234, descriptorIndex := 115, attributes := #[] }] 1537 103 #[120] #[])
  fields := #[]
  methods := #[k6m0, k6m1, k6m2, k6m3]
  instanceTypes := #[]
  staticTypes := #[]
  resolved := Array.replicate 251 none
  statics := none }

def pool7 : Array CpInfo := pool [(1, .methodref 2 3), (0, .class_ 4), (0, .nameAndType 5 6), (0, u "java/util/AbstractCollection"), (0, u "<init>"), (0, u "()V"), (0, .fieldref 8 9), (0, .class_ 10), (0, .nameAndType 11 12), (0, u "java/util/AbstractList"), (0, u "modCount"), (0, u "I"), (64, .class_ 78), (0, u "java/util/AbstractList$Itr"), (3, .class_ 83), (0, u "java/util/AbstractList$ListItr"), (9, .class_ 94), (0, u "java/util/AbstractList$RandomAccessSubList"), (3, .class_ 99), (0, u "java/util/AbstractList$SubList"), (33, .class_ 134), (0, u "java/util/List"), (73, .class_ 209), (0, u "java/util/AbstractList$SubList$1"), (0, .class_ 211), (0, u "java/util/AbstractList$RandomAccessSpliterator")] 6

def k7c0 : Code := { maxStack := 2, maxLocals := 1, code := jdk_39_method_1_code, exceptionTable := #[], attributes := #[] }
def k7m0 : Method := { name := "<init>", desc := "()V", sig := { parameters := [], returnType := none }, accessFlags := 4, code := some k7c0 }
/-- java/util/AbstractList -/
def k7 : Class := { plain "java/util/AbstractList" (some 4) with
  accessFlags := 1057
  interfaces := #[6]
  cf := some (fileOf pool7 8 #[.nestMembers #[93, 98, 208, 210, 82, 77]] #[{ accessFlags := 4, nameIndex := 5, descriptorIndex := 6, attributes := #[] }] 1057 2 #[133] #[{ accessFlags := 132, nameIndex := 11, descriptorIndex := 12, attributes := #[] }])
  fields := #[{ name := "modCount", type := .int, accessFlags := 132, slot := 0, constantValue := 0 }]
  methods := #[k7m0]
  instanceTypes := #[.int]
  staticTypes := #[]
  resolved := Array.replicate 218 none
  statics := none }

def pool8 : Array CpInfo := pool [(1, .class_ 2), (0, u "java/util/RandomAccess"), (0, .class_ 4), (0, u "java/lang/Object")] 2

/-- java/util/RandomAccess -/
def k8 : Class := { plain "java/util/RandomAccess" (some 0) with
  accessFlags := 1537
  interfaces := #[]
  cf := some (fileOf pool8 1 #[] #[] 1537 3 #[] #[])
  fields := #[]
  methods := #[]
  instanceTypes := #[]
  staticTypes := #[]
  resolved := Array.replicate 7 none
  statics := none }

def pool9 : Array CpInfo := pool [(1, .class_ 2), (0, u "java/lang/Cloneable"), (0, .class_ 4), (0, u "java/lang/Object")] 2

/-- java/lang/Cloneable -/
def k9 : Class := { plain "java/lang/Cloneable" (some 0) with
  accessFlags := 1537
  interfaces := #[]
  cf := some (fileOf pool9 1 #[] #[] 1537 3 #[] #[])
  fields := #[]
  methods := #[]
  instanceTypes := #[]
  staticTypes := #[]
  resolved := Array.replicate 7 none
  statics := none }

def pool10 : Array CpInfo := pool [(1, .class_ 2), (0, u "java/io/Serializable"), (0, .class_ 4), (0, u "java/lang/Object")] 2

/-- java/io/Serializable -/
def k10 : Class := { plain "java/io/Serializable" (some 0) with
  accessFlags := 1537
  interfaces := #[]
  cf := some (fileOf pool10 1 #[] #[] 1537 3 #[] #[])
  fields := #[]
  methods := #[]
  instanceTypes := #[]
  staticTypes := #[]
  resolved := Array.replicate 7 none
  statics := none }

def pool11 : Array CpInfo := pool [(1, .methodref 2 3), (0, .class_ 4), (0, .nameAndType 5 6), (0, u "java/util/AbstractList"), (0, u "<init>"), (0, u "()V"), (0, .class_ 8), (0, u "java/lang/Object"), (0, .fieldref 10 11), (0, .class_ 12), (0, .nameAndType 13 14), (0, u "java/util/ArrayList"), (0, u "elementData"), (0, u "[Ljava/lang/Object;"), (2, u "EMPTY_ELEMENTDATA"), (21, .fieldref 10 40), (0, .nameAndType 41 14), (0, u "DEFAULTCAPACITY_EMPTY_ELEMENTDATA"), (4, u "toArray"), (0, u "()[Ljava/lang/Object;"), (0, .fieldref 10 49), (0, .nameAndType 50 51), (0, u "size"), (0, u "I"), (6, .class_ 60), (1, u "java/util/Arrays"), (0, u "copyOf"), (1, .fieldref 10 64), (0, .nameAndType 65 51), (0, u "modCount"), (0, .methodref 58 67), (0, .nameAndType 61 68), (0, u "([Ljava/lang/Object;I)[Ljava/lang/Object;"), (0, .methodref 10 70), (0, .nameAndType 71 72), (0, u "grow"), (0, u "(I)[Ljava/lang/Object;"), (6, .methodref 80 81), (0, .class_ 82), (0, .nameAndType 83 84), (0, u "java/lang/Math"), (0, u "max"), (0, u "(II)I"), (11, u "(Ljava/lang/Object;)Z"), (32, .methodref 10 130), (0, .nameAndType 71 47), (0, .methodref 10 132), (0, .nameAndType 133 134), (0, u "add"), (0, u "(Ljava/lang/Object;[Ljava/lang/Object;I)V"), (13, .class_ 149), (0, u "java/util/List"), (23, u "()Z"), (88, .class_ 263), (0, u "java/util/ArrayList$ListItr"), (3, .class_ 268), (0, u "java/util/ArrayList$Itr"), (7, .class_ 277), (0, u "java/util/ArrayList$SubList"), (12, .class_ 291), (0, u "java/util/ArrayList$ArrayListSpliterator"), (37, .class_ 330), (0, u "java/util/RandomAccess"), (0, .class_ 332), (0, u "java/lang/Cloneable"), (0, .class_ 334), (0, u "java/io/Serializable"), (0, u "serialVersionUID"), (0, u "J"), (3, u "DEFAULT_CAPACITY"), (22, u "isEmpty"), (136, .class_ 501), (0, u "java/util/ArrayList$SubList$2"), (0, .class_ 503), (0, u "java/util/ArrayList$SubList$1")] 5

def k11c0 : Code := { maxStack := 2, maxLocals := 1, code := jdk_38_method_2_code, exceptionTable := #[], attributes := #[] }
def k11m0 : Method := { name := "<init>", desc := "()V", sig := { parameters := [], returnType := none }, accessFlags := 1, code := some k11c0 }
def k11c1 : Code := { maxStack := 4, maxLocals := 4, code := jdk_38_method_6_code, exceptionTable := #[], attributes := #[] }
def k11m1 : Method := { name := "grow", desc := "(I)[Ljava/lang/Object;", sig := { parameters := [.int], returnType := some (.array (.object "java/lang/Object")) }, accessFlags := 2, code := some k11c1 }
def k11c2 : Code := { maxStack := 3, maxLocals := 1, code := jdk_38_method_7_code, exceptionTable := #[], attributes := #[] }
def k11m2 : Method := { name := "grow", desc := "()[Ljava/lang/Object;", sig := { parameters := [], returnType := some (.array (.object "java/lang/Object")) }, accessFlags := 2, code := some k11c2 }
def k11c3 : Code := { maxStack := 1, maxLocals := 1, code := jdk_38_method_9_code, exceptionTable := #[], attributes := #[] }
def k11m3 : Method := { name := "isEmpty", desc := "()Z", sig := { parameters := [], returnType := some .boolean }, accessFlags := 1, code := some k11c3 }
def k11c4 : Code := { maxStack := 2, maxLocals := 1, code := jdk_38_method_16_code, exceptionTable := #[], attributes := #[] }
def k11m4 : Method := { name := "toArray", desc := "()[Ljava/lang/Object;", sig := { parameters := [], returnType := some (.array (.object "java/lang/Object")) }, accessFlags := 1, code := some k11c4 }
def k11c5 : Code := { maxStack := 3, maxLocals := 4, code := jdk_38_method_24_code, exceptionTable := #[], attributes := #[] }
def k11m5 : Method := { name := "add", desc := "(Ljava/lang/Object;[Ljava/lang/Object;I)V", sig := { parameters := [(.object "java/lang/Object"), (.array (.object "java/lang/Object")), .int], returnType := none }, accessFlags := 2, code := some k11c5 }
def k11c6 : Code := { maxStack := 4, maxLocals := 2, code := jdk_38_method_25_code, exceptionTable := #[], attributes := #[] }
def k11m6 : Method := { name := "add", desc := "(Ljava/lang/Object;)Z", sig := { parameters := [(.object "java/lang/Object")], returnType := some .boolean }, accessFlags := 1, code := some k11c6 }
/-- java/util/ArrayList -/
def k11 : Class := { plain "java/util/ArrayList" (some 7) with
  accessFlags := 33
  interfaces := #[6, 8, 9, 10]
  cf := some (fileOf pool11 10 #[.nestMembers #[290, 276, 500, 502, 262, 267]] #[{ accessFlags := 1, nameIndex := 5, descriptorIndex := 6, attributes := #[] }, { accessFlags := 2, nameIndex := 71, descriptorIndex := 72, attributes := #[] }, { accessFlags := 2, nameIndex := 71, descriptorIndex := 47, attributes := #[] }, { accessFlags := 1, nameIndex := 363, descriptorIndex := 173, attributes := #[] }, { accessFlags := 1, nameIndex := 46, descriptorIndex := 47, attributes := #[] }, { accessFlags := 2, nameIndex := 133, descriptorIndex := 134, attributes := #[] }, { accessFlags := 1, nameIndex := 133, descriptorIndex := 96, attributes := #[] }] 33 2 #[148, 329, 331, 333] #[{ accessFlags := 26, nameIndex := 335, descriptorIndex := 336, attributes := #[] }, { accessFlags := 26, nameIndex := 340, descriptorIndex := 51, attributes := #[] }, { accessFlags := 26, nameIndex := 17, descriptorIndex := 14, attributes := #[] }, { accessFlags := 26, nameIndex := 41, descriptorIndex := 14, attributes := #[] }, { accessFlags := 128, nameIndex := 13, descriptorIndex := 14, attributes := #[] }, { accessFlags := 2, nameIndex := 50, descriptorIndex := 51, attributes := #[] }])
  fields := #[{ name := "serialVersionUID", type := .long, accessFlags := 26, slot := 0, constantValue := 0 }, { name := "DEFAULT_CAPACITY", type := .int, accessFlags := 26, slot := 1, constantValue := 0 }, { name := "EMPTY_ELEMENTDATA", type := (.array (.object "java/lang/Object")), accessFlags := 26, slot := 2, constantValue := 0 }, { name := "DEFAULTCAPACITY_EMPTY_ELEMENTDATA", type := (.array (.object "java/lang/Object")), accessFlags := 26, slot := 3, constantValue := 0 }, { name := "elementData", type := (.array (.object "java/lang/Object")), accessFlags := 128, slot := 1, constantValue := 0 }, { name := "size", type := .int, accessFlags := 2, slot := 2, constantValue := 0 }]
  methods := #[k11m0, k11m1, k11m2, k11m3, k11m4, k11m5, k11m6]
  instanceTypes := #[.int, (.array (.object "java/lang/Object")), .int]
  staticTypes := #[.long, .int, (.array (.object "java/lang/Object")), (.array (.object "java/lang/Object"))]
  resolved := Array.replicate 509 none
  statics := some 0 }

def pool12 : Array CpInfo := pool [(1, .class_ 2), (0, u "java/lang/constant/Constable"), (0, .class_ 4), (0, u "java/lang/Object")] 6

/-- java/lang/constant/Constable -/
def k12 : Class := { plain "java/lang/constant/Constable" (some 0) with
  accessFlags := 1537
  interfaces := #[]
  cf := some (fileOf pool12 1 #[] #[] 1537 3 #[] #[])
  fields := #[]
  methods := #[]
  instanceTypes := #[]
  staticTypes := #[]
  resolved := Array.replicate 11 none
  statics := none }

def pool13 : Array CpInfo := pool [(1, .class_ 2), (0, u "java/lang/Comparable"), (0, .class_ 4), (0, u "java/lang/Object")] 7

/-- java/lang/Comparable -/
def k13 : Class := { plain "java/lang/Comparable" (some 0) with
  accessFlags := 1537
  interfaces := #[]
  cf := some (fileOf pool13 1 #[] #[] 1537 3 #[] #[])
  fields := #[]
  methods := #[]
  instanceTypes := #[]
  staticTypes := #[]
  resolved := Array.replicate 12 none
  statics := none }

def pool14 : Array CpInfo := pool [(2, .class_ 4), (1, u "java/lang/Enum"), (0, u "name"), (0, u "Ljava/lang/String;"), (2, u "ordinal"), (0, u "I"), (1, .class_ 14), (1, u "java/lang/Object"), (4, u "hash"), (86, .class_ 108), (1, u "java/lang/Enum$EnumDesc"), (2, .class_ 112), (0, u "java/lang/constant/Constable"), (0, .class_ 114), (0, u "java/lang/Comparable"), (0, .class_ 116), (0, u "java/io/Serializable")] 87

/-- java/lang/Enum -/
def k14 : Class := { plain "java/lang/Enum" (some 0) with
  accessFlags := 1057
  interfaces := #[12, 13, 10]
  cf := some (fileOf pool14 2 #[.nestMembers #[106]] #[] 1057 12 #[111, 113, 115] #[{ accessFlags := 18, nameIndex := 5, descriptorIndex := 6, attributes := #[] }, { accessFlags := 18, nameIndex := 9, descriptorIndex := 10, attributes := #[] }, { accessFlags := 2, nameIndex := 19, descriptorIndex := 10, attributes := #[] }])
  fields := #[{ name := "name", type := (.object "java/lang/String"), accessFlags := 18, slot := 0, constantValue := 0 }, { name := "ordinal", type := .int, accessFlags := 18, slot := 1, constantValue := 0 }, { name := "hash", type := .int, accessFlags := 2, slot := 2, constantValue := 0 }]
  methods := #[]
  instanceTypes := #[(.object "java/lang/String"), .int, .int]
  staticTypes := #[]
  resolved := Array.replicate 204 none
  statics := none }

def pool15 : Array CpInfo := pool [(1, .class_ 2), (0, u "com/example/hybrev/hybrev/RevocationEvent$Kind"), (2, u "TOKEN"), (0, u "Lcom/example/hybrev/hybrev/RevocationEvent$Kind;"), (2, u "USER"), (2, u "$VALUES"), (0, u "[Lcom/example/hybrev/hybrev/RevocationEvent$Kind;"), (6, .class_ 22), (1, u "java/lang/Enum"), (25, .class_ 49), (0, u "com/example/hybrev/hybrev/RevocationEvent")] 2

/-- com/example/hybrev/hybrev/RevocationEvent$Kind -/
def k15 : Class := { plain "com/example/hybrev/hybrev/RevocationEvent$Kind" (some 14) with
  accessFlags := 16433
  interfaces := #[]
  cf := some (fileOf pool15 1 #[.nestHost 48] #[] 16433 20 #[] #[{ accessFlags := 16409, nameIndex := 5, descriptorIndex := 6, attributes := #[] }, { accessFlags := 16409, nameIndex := 9, descriptorIndex := 6, attributes := #[] }, { accessFlags := 4122, nameIndex := 12, descriptorIndex := 13, attributes := #[] }])
  fields := #[{ name := "TOKEN", type := (.object "com/example/hybrev/hybrev/RevocationEvent$Kind"), accessFlags := 16409, slot := 0, constantValue := 0 }, { name := "USER", type := (.object "com/example/hybrev/hybrev/RevocationEvent$Kind"), accessFlags := 16409, slot := 1, constantValue := 0 }, { name := "$VALUES", type := (.array (.object "com/example/hybrev/hybrev/RevocationEvent$Kind")), accessFlags := 4122, slot := 2, constantValue := 0 }]
  methods := #[]
  instanceTypes := #[(.object "java/lang/String"), .int, .int]
  staticTypes := #[(.object "com/example/hybrev/hybrev/RevocationEvent$Kind"), (.object "com/example/hybrev/hybrev/RevocationEvent$Kind"), (.array (.object "com/example/hybrev/hybrev/RevocationEvent$Kind"))]
  resolved := Array.replicate 52 none
  statics := some 1 }

def pool16 : Array CpInfo := pool [(2, .class_ 4), (1, u "java/lang/CharSequence"), (42, .class_ 48), (0, u "java/lang/CharSequence$1CodePointIterator"), (10, .class_ 60), (0, u "java/lang/CharSequence$1CharIterator"), (5, .class_ 67), (0, u "java/lang/Object")] 63

/-- java/lang/CharSequence -/
def k16 : Class := { plain "java/lang/CharSequence" (some 0) with
  accessFlags := 1537
  interfaces := #[]
  cf := some (fileOf pool16 2 #[.nestMembers #[47, 59]] #[] 1537 66 #[] #[])
  fields := #[]
  methods := #[]
  instanceTypes := #[]
  staticTypes := #[]
  resolved := Array.replicate 131 none
  statics := none }

def pool17 : Array CpInfo := pool [(1, .class_ 2), (0, u "java/lang/constant/ConstantDesc"), (0, .class_ 4), (0, u "java/lang/Object")] 32

/-- java/lang/constant/ConstantDesc -/
def k17 : Class := { plain "java/lang/constant/ConstantDesc" (some 0) with
  accessFlags := 1537
  interfaces := #[]
  cf := some (fileOf pool17 1 #[] #[] 1537 3 #[] #[])
  fields := #[]
  methods := #[]
  instanceTypes := #[]
  staticTypes := #[]
  resolved := Array.replicate 37 none
  statics := none }

def pool18 : Array CpInfo := pool [(1, .methodref 2 3), (0, .class_ 4), (0, .nameAndType 5 6), (0, u "java/lang/Object"), (0, u "<init>"), (0, u "()V"), (0, .string 8), (0, u ""), (0, .fieldref 10 11), (0, .class_ 12), (0, .nameAndType 13 14), (0, u "java/lang/String"), (0, u "value"), (0, u "[B"), (0, .fieldref 10 16), (0, .nameAndType 17 18), (0, u "coder"), (0, u "B"), (2, u "hash"), (0, u "I"), (2, u "hashIsZero"), (0, u "Z"), (0, .methodref 10 28), (0, .nameAndType 5 29), (0, u "([CIILjava/lang/Void;)V"), (8, .fieldref 10 39), (0, .nameAndType 40 26), (0, u "COMPACT_STRINGS"), (1, .class_ 44), (1, u "java/lang/StringUTF16"), (0, u "compress"), (1, .methodref 42 48), (0, .nameAndType 49 50), (0, u "coderFromArrayLen"), (0, u "([BI)B"), (126, .methodref 42 178), (0, .nameAndType 45 179), (0, u "([CII)[B"), (395, .class_ 576), (0, u "java/lang/CharSequence"), (22, u "CASE_INSENSITIVE_ORDER"), (0, u "Ljava/util/Comparator;"), (409, u "([C)V"), (90, u "serialPersistentFields"), (0, u "[Ljava/io/ObjectStreamField;"), (0, .class_ 1104), (0, u "java/lang/String$CaseInsensitiveComparator"), (1, .class_ 1107), (0, u "java/io/Serializable"), (0, .class_ 1109), (0, u "java/lang/Comparable"), (0, .class_ 1111), (0, u "java/lang/constant/Constable"), (0, .class_ 1113), (0, u "java/lang/constant/ConstantDesc"), (2, u "serialVersionUID"), (0, u "J"), (3, u "REPL"), (0, u "C"), (2, u "LATIN1"), (1, u "UTF16")] 323

def k18m0 : Method := { name := "<init>", desc := "()V", sig := { parameters := [], returnType := none }, accessFlags := 1, code := none }
def k18c1 : Code := { maxStack := 5, maxLocals := 2, code := jdk_42_method_3_code, exceptionTable := #[], attributes := #[] }
def k18m1 : Method := { name := "<init>", desc := "([C)V", sig := { parameters := [(.array .char)], returnType := none }, accessFlags := 1, code := some k18c1 }
def k18c2 : Code := { maxStack := 4, maxLocals := 6, code := jdk_42_method_149_code, exceptionTable := #[], attributes := #[] }
def k18m2 : Method := { name := "<init>", desc := "([CIILjava/lang/Void;)V", sig := { parameters := [(.array .char), .int, .int, (.object "java/lang/Void")], returnType := none }, accessFlags := 2, code := some k18c2 }
/-- java/lang/String -/
def k18 : Class := { plain "java/lang/String" (some 0) with
  accessFlags := 49
  interfaces := #[10, 13, 16, 12, 17]
  cf := some (fileOf pool18 10 #[.nestMembers #[1103]] #[{ accessFlags := 1, nameIndex := 5, descriptorIndex := 6, attributes := #[] }, { accessFlags := 1, nameIndex := 5, descriptorIndex := 1010, attributes := #[] }, { accessFlags := 2, nameIndex := 5, descriptorIndex := 29, attributes := #[] }] 49 2 #[1106, 1108, 575, 1110, 1112] #[{ accessFlags := 18, nameIndex := 13, descriptorIndex := 14, attributes := #[] }, { accessFlags := 18, nameIndex := 17, descriptorIndex := 18, attributes := #[] }, { accessFlags := 2, nameIndex := 21, descriptorIndex := 22, attributes := #[] }, { accessFlags := 2, nameIndex := 25, descriptorIndex := 26, attributes := #[] }, { accessFlags := 26, nameIndex := 1116, descriptorIndex := 1117, attributes := #[] }, { accessFlags := 24, nameIndex := 40, descriptorIndex := 26, attributes := #[] }, { accessFlags := 26, nameIndex := 1101, descriptorIndex := 1102, attributes := #[] }, { accessFlags := 26, nameIndex := 1121, descriptorIndex := 1122, attributes := #[] }, { accessFlags := 25, nameIndex := 599, descriptorIndex := 600, attributes := #[] }, { accessFlags := 24, nameIndex := 1125, descriptorIndex := 18, attributes := #[] }, { accessFlags := 24, nameIndex := 1127, descriptorIndex := 18, attributes := #[] }])
  fields := #[{ name := "value", type := (.array .byte), accessFlags := 18, slot := 0, constantValue := 0 }, { name := "coder", type := .byte, accessFlags := 18, slot := 1, constantValue := 0 }, { name := "hash", type := .int, accessFlags := 2, slot := 2, constantValue := 0 }, { name := "hashIsZero", type := .boolean, accessFlags := 2, slot := 3, constantValue := 0 }, { name := "serialVersionUID", type := .long, accessFlags := 26, slot := 0, constantValue := 0 }, { name := "COMPACT_STRINGS", type := .boolean, accessFlags := 24, slot := 1, constantValue := 0 }, { name := "serialPersistentFields", type := (.array (.object "java/io/ObjectStreamField")), accessFlags := 26, slot := 2, constantValue := 0 }, { name := "REPL", type := .char, accessFlags := 26, slot := 3, constantValue := 0 }, { name := "CASE_INSENSITIVE_ORDER", type := (.object "java/util/Comparator"), accessFlags := 25, slot := 4, constantValue := 0 }, { name := "LATIN1", type := .byte, accessFlags := 24, slot := 5, constantValue := 0 }, { name := "UTF16", type := .byte, accessFlags := 24, slot := 6, constantValue := 0 }]
  methods := #[k18m0, k18m1, k18m2]
  instanceTypes := #[(.array .byte), .byte, .int, .boolean]
  staticTypes := #[.long, .boolean, (.array (.object "java/io/ObjectStreamField")), .char, (.object "java/util/Comparator"), .byte, .byte]
  resolved := Array.replicate 1451 none
  statics := some 2 }

def pool19 : Array CpInfo := pool [(1, .methodref 2 3), (0, .class_ 4), (0, .nameAndType 5 6), (0, u "java/lang/Object"), (0, u "<init>"), (0, u "()V"), (1, .class_ 10), (1, u "java/util/List"), (1, u "()Ljava/util/List;"), (0, .fieldref 14 15), (0, .class_ 16), (0, .nameAndType 17 18), (0, u "com/example/hybrev/hybrev/EventPage"), (0, u "events"), (0, u "Ljava/util/List;"), (0, .fieldref 14 20), (0, .nameAndType 21 22), (0, u "next"), (0, u "Ljava/lang/String;"), (0, .interfaceMethodref 8 24), (0, .nameAndType 25 26), (0, u "copyOf"), (0, u "(Ljava/util/Collection;)Ljava/util/List;"), (0, .string 21), (0, .methodref 29 30), (0, .class_ 31), (0, .nameAndType 32 33), (0, u "java/util/Objects"), (0, u "requireNonNull"), (0, u "(Ljava/lang/Object;Ljava/lang/String;)Ljava/lang/Object;"), (0, .class_ 35), (0, u "java/lang/String"), (0, .fieldref 14 37), (0, .nameAndType 38 39), (0, u "MISSED"), (0, u "Lcom/example/hybrev/hybrev/EventPage;"), (5, u "(Ljava/util/List;Ljava/lang/String;)V"), (1, u "missed"), (0, u "()Lcom/example/hybrev/hybrev/EventPage;"), (0, u "isMissed"), (0, u "()Z"), (1, u "getEvents"), (1, u "getNext"), (0, u "()Ljava/lang/String;")] 3

def k19m0 : Method := { name := "<init>", desc := "()V", sig := { parameters := [], returnType := none }, accessFlags := 2, code := none }
def k19c1 : Code := { maxStack := 3, maxLocals := 3, code := prog_5_method_2_code, exceptionTable := #[], attributes := #[] }
def k19m1 : Method := { name := "<init>", desc := "(Ljava/util/List;Ljava/lang/String;)V", sig := { parameters := [(.object "java/util/List"), (.object "java/lang/String")], returnType := none }, accessFlags := 1, code := some k19c1 }
def k19c2 : Code := { maxStack := 1, maxLocals := 0, code := prog_5_method_3_code, exceptionTable := #[], attributes := #[] }
def k19m2 : Method := { name := "missed", desc := "()Lcom/example/hybrev/hybrev/EventPage;", sig := { parameters := [], returnType := some (.object "com/example/hybrev/hybrev/EventPage") }, accessFlags := 9, code := some k19c2 }
def k19c3 : Code := { maxStack := 1, maxLocals := 1, code := prog_5_method_4_code, exceptionTable := #[], attributes := #[] }
def k19m3 : Method := { name := "isMissed", desc := "()Z", sig := { parameters := [], returnType := some .boolean }, accessFlags := 1, code := some k19c3 }
def k19c4 : Code := { maxStack := 1, maxLocals := 1, code := prog_5_method_5_code, exceptionTable := #[], attributes := #[] }
def k19m4 : Method := { name := "getEvents", desc := "()Ljava/util/List;", sig := { parameters := [], returnType := some (.object "java/util/List") }, accessFlags := 1, code := some k19c4 }
def k19c5 : Code := { maxStack := 1, maxLocals := 1, code := prog_5_method_6_code, exceptionTable := #[], attributes := #[] }
def k19m5 : Method := { name := "getNext", desc := "()Ljava/lang/String;", sig := { parameters := [], returnType := some (.object "java/lang/String") }, accessFlags := 1, code := some k19c5 }
/-- com/example/hybrev/hybrev/EventPage -/
def k19 : Class := { plain "com/example/hybrev/hybrev/EventPage" (some 0) with
  accessFlags := 49
  interfaces := #[]
  cf := some (fileOf pool19 14 #[] #[{ accessFlags := 2, nameIndex := 5, descriptorIndex := 6, attributes := #[] }, { accessFlags := 1, nameIndex := 5, descriptorIndex := 45, attributes := #[] }, { accessFlags := 9, nameIndex := 47, descriptorIndex := 48, attributes := #[] }, { accessFlags := 1, nameIndex := 49, descriptorIndex := 50, attributes := #[] }, { accessFlags := 1, nameIndex := 52, descriptorIndex := 12, attributes := #[] }, { accessFlags := 1, nameIndex := 54, descriptorIndex := 55, attributes := #[] }] 49 2 #[] #[{ accessFlags := 26, nameIndex := 38, descriptorIndex := 39, attributes := #[] }, { accessFlags := 18, nameIndex := 17, descriptorIndex := 18, attributes := #[] }, { accessFlags := 18, nameIndex := 21, descriptorIndex := 22, attributes := #[] }])
  fields := #[{ name := "MISSED", type := (.object "com/example/hybrev/hybrev/EventPage"), accessFlags := 26, slot := 0, constantValue := 0 }, { name := "events", type := (.object "java/util/List"), accessFlags := 18, slot := 0, constantValue := 0 }, { name := "next", type := (.object "java/lang/String"), accessFlags := 18, slot := 1, constantValue := 0 }]
  methods := #[k19m0, k19m1, k19m2, k19m3, k19m4, k19m5]
  instanceTypes := #[(.object "java/util/List"), (.object "java/lang/String")]
  staticTypes := #[(.object "com/example/hybrev/hybrev/EventPage")]
  resolved := Array.replicate 59 none
  statics := some 3 }

def pool20 : Array CpInfo := pool [(2, .class_ 4), (1, u "java/lang/Object"), (0, u "<init>"), (0, u "()V"), (3, .class_ 11), (0, u "java/util/ImmutableCollections$List12"), (0, .class_ 13), (0, u "java/util/ImmutableCollections$ListN"), (3, u "Z"), (0, .class_ 19), (0, u "java/util/List"), (0, .interfaceMethodref 21 22), (0, .class_ 23), (0, .nameAndType 24 25), (0, u "java/util/Collection"), (0, u "isEmpty"), (0, u "()Z"), (0, .interfaceMethodref 18 27), (0, .nameAndType 28 29), (0, u "of"), (0, u "()Ljava/util/List;"), (0, .interfaceMethodref 21 31), (0, .nameAndType 32 33), (0, u "toArray"), (0, u "()[Ljava/lang/Object;"), (0, .interfaceMethodref 18 35), (0, .nameAndType 28 36), (0, u "([Ljava/lang/Object;)Ljava/util/List;"), (10, .class_ 49), (1, u "java/util/ImmutableCollections"), (0, u "$assertionsDisabled"), (5, u "[Ljava/lang/Object;"), (5, u "EMPTY_LIST"), (0, u "Ljava/util/ImmutableCollections$ListN;"), (8, u "EMPTY_LIST_NULLS"), (22, u "SALT32L"), (0, u "J"), (2, u "REVERSE"), (6, u "archivedObjects"), (2, u "EMPTY"), (0, u "Ljava/lang/Object;"), (0, .class_ 112), (0, u "java/util/ImmutableCollections$SetN"), (5, u "EMPTY_SET"), (0, u "Ljava/util/ImmutableCollections$SetN;"), (0, .class_ 121), (0, u "java/util/ImmutableCollections$MapN"), (3, u "EMPTY_MAP"), (0, u "Ljava/util/ImmutableCollections$MapN;"), (4, u "EXPAND_FACTOR"), (0, u "I"), (9, u "listCopy"), (0, u "(Ljava/util/Collection;)Ljava/util/List;"), (25, .class_ 170), (0, u "java/util/ImmutableCollections$MapN$MapNIterator"), (0, .class_ 172), (0, u "java/util/ImmutableCollections$MapN$1"), (0, .class_ 174), (0, u "java/util/ImmutableCollections$Map1"), (0, .class_ 176), (0, u "java/util/ImmutableCollections$AbstractImmutableMap"), (0, .class_ 178), (0, u "java/util/ImmutableCollections$SetN$SetNIterator"), (0, .class_ 180), (0, u "java/util/ImmutableCollections$Set12"), (0, .class_ 182), (0, u "java/util/ImmutableCollections$Set12$1"), (0, .class_ 184), (0, u "java/util/ImmutableCollections$AbstractImmutableSet"), (0, .class_ 186), (0, u "java/util/ImmutableCollections$SubList"), (0, .class_ 188), (0, u "java/util/ImmutableCollections$ListItr"), (0, .class_ 190), (0, u "java/util/ImmutableCollections$AbstractImmutableList"), (0, .class_ 192), (0, u "java/util/ImmutableCollections$AbstractImmutableCollection"), (0, .class_ 194), (0, u "java/util/ImmutableCollections$Access"), (0, .class_ 196), (0, u "java/util/ImmutableCollections$Access$1")] 16

def k20m0 : Method := { name := "<init>", desc := "()V", sig := { parameters := [], returnType := none }, accessFlags := 2, code := none }
def k20c1 : Code := { maxStack := 1, maxLocals := 2, code := jdk_56_method_3_code, exceptionTable := #[], attributes := #[] }
def k20m1 : Method := { name := "listCopy", desc := "(Ljava/util/Collection;)Ljava/util/List;", sig := { parameters := [(.object "java/util/Collection")], returnType := some (.object "java/util/List") }, accessFlags := 8, code := some k20c1 }
/-- java/util/ImmutableCollections -/
def k20 : Class := { plain "java/util/ImmutableCollections" (some 0) with
  accessFlags := 32
  interfaces := #[]
  cf := some (fileOf pool20 47 #[.nestMembers #[120, 169, 171, 173, 175, 111, 177, 179, 181, 183, 12, 10, 185, 187, 189, 191, 193, 195]] #[{ accessFlags := 2, nameIndex := 5, descriptorIndex := 6, attributes := #[] }, { accessFlags := 8, nameIndex := 142, descriptorIndex := 143, attributes := #[] }] 32 2 #[] #[{ accessFlags := 26, nameIndex := 95, descriptorIndex := 96, attributes := #[] }, { accessFlags := 26, nameIndex := 99, descriptorIndex := 17, attributes := #[] }, { accessFlags := 10, nameIndex := 106, descriptorIndex := 56, attributes := #[] }, { accessFlags := 26, nameIndex := 109, descriptorIndex := 110, attributes := #[] }, { accessFlags := 24, nameIndex := 62, descriptorIndex := 63, attributes := #[] }, { accessFlags := 24, nameIndex := 72, descriptorIndex := 63, attributes := #[] }, { accessFlags := 24, nameIndex := 118, descriptorIndex := 119, attributes := #[] }, { accessFlags := 24, nameIndex := 125, descriptorIndex := 126, attributes := #[] }, { accessFlags := 24, nameIndex := 131, descriptorIndex := 132, attributes := #[] }, { accessFlags := 4120, nameIndex := 50, descriptorIndex := 17, attributes := #[] }])
  fields := #[{ name := "SALT32L", type := .long, accessFlags := 26, slot := 0, constantValue := 0 }, { name := "REVERSE", type := .boolean, accessFlags := 26, slot := 1, constantValue := 0 }, { name := "archivedObjects", type := (.array (.object "java/lang/Object")), accessFlags := 10, slot := 2, constantValue := 0 }, { name := "EMPTY", type := (.object "java/lang/Object"), accessFlags := 26, slot := 3, constantValue := 0 }, { name := "EMPTY_LIST", type := (.object "java/util/ImmutableCollections$ListN"), accessFlags := 24, slot := 4, constantValue := 0 }, { name := "EMPTY_LIST_NULLS", type := (.object "java/util/ImmutableCollections$ListN"), accessFlags := 24, slot := 5, constantValue := 0 }, { name := "EMPTY_SET", type := (.object "java/util/ImmutableCollections$SetN"), accessFlags := 24, slot := 6, constantValue := 0 }, { name := "EMPTY_MAP", type := (.object "java/util/ImmutableCollections$MapN"), accessFlags := 24, slot := 7, constantValue := 0 }, { name := "EXPAND_FACTOR", type := .int, accessFlags := 24, slot := 8, constantValue := 0 }, { name := "$assertionsDisabled", type := .boolean, accessFlags := 4120, slot := 9, constantValue := 0 }]
  methods := #[k20m0, k20m1]
  instanceTypes := #[]
  staticTypes := #[.long, .boolean, (.array (.object "java/lang/Object")), (.object "java/lang/Object"), (.object "java/util/ImmutableCollections$ListN"), (.object "java/util/ImmutableCollections$ListN"), (.object "java/util/ImmutableCollections$SetN"), (.object "java/util/ImmutableCollections$MapN"), .int, .boolean]
  resolved := Array.replicate 213 none
  statics := some 4 }

def pool21 : Array CpInfo := pool [(1, .methodref 2 3), (0, .class_ 4), (0, .nameAndType 5 6), (0, u "java/util/AbstractCollection"), (0, u "<init>"), (0, u "()V"), (1, .class_ 10), (1, u "java/util/ImmutableCollections"), (2, .class_ 14), (0, u "java/util/ImmutableCollections$AbstractImmutableCollection")] 41

def k21c0 : Code := { maxStack := 1, maxLocals := 1, code := jdk_47_method_1_code, exceptionTable := #[], attributes := #[] }
def k21m0 : Method := { name := "<init>", desc := "()V", sig := { parameters := [], returnType := none }, accessFlags := 0, code := some k21c0 }
/-- java/util/ImmutableCollections$AbstractImmutableCollection -/
def k21 : Class := { plain "java/util/ImmutableCollections$AbstractImmutableCollection" (some 4) with
  accessFlags := 1056
  interfaces := #[]
  cf := some (fileOf pool21 13 #[.nestHost 8] #[{ accessFlags := 0, nameIndex := 5, descriptorIndex := 6, attributes := #[] }] 1056 2 #[] #[])
  fields := #[]
  methods := #[k21m0]
  instanceTypes := #[]
  staticTypes := #[]
  resolved := Array.replicate 56 none
  statics := none }

def pool22 : Array CpInfo := pool [(1, .methodref 2 3), (0, .class_ 4), (0, .nameAndType 5 6), (0, u "java/util/ImmutableCollections$AbstractImmutableCollection"), (0, u "<init>"), (0, u "()V"), (1, .class_ 10), (1, u "java/util/ImmutableCollections"), (3, .class_ 16), (1, u "java/util/ImmutableCollections$AbstractImmutableList"), (60, .class_ 78), (0, u "java/util/List"), (45, .class_ 125), (0, u "java/util/RandomAccess")] 70

def k22c0 : Code := { maxStack := 1, maxLocals := 1, code := jdk_46_method_1_code, exceptionTable := #[], attributes := #[] }
def k22m0 : Method := { name := "<init>", desc := "()V", sig := { parameters := [], returnType := none }, accessFlags := 0, code := some k22c0 }
/-- java/util/ImmutableCollections$AbstractImmutableList -/
def k22 : Class := { plain "java/util/ImmutableCollections$AbstractImmutableList" (some 21) with
  accessFlags := 1056
  interfaces := #[6, 8]
  cf := some (fileOf pool22 14 #[.nestHost 8] #[{ accessFlags := 0, nameIndex := 5, descriptorIndex := 6, attributes := #[] }] 1056 2 #[77, 124] #[])
  fields := #[]
  methods := #[k22m0]
  instanceTypes := #[]
  staticTypes := #[]
  resolved := Array.replicate 196 none
  statics := none }

def pool23 : Array CpInfo := pool [(1, .methodref 2 3), (0, .class_ 4), (0, .nameAndType 5 6), (0, u "java/util/ImmutableCollections$AbstractImmutableList"), (0, u "<init>"), (0, u "()V"), (0, .methodref 8 9), (0, .class_ 10), (0, .nameAndType 11 12), (0, u "java/util/Objects"), (0, u "requireNonNull"), (0, u "(Ljava/lang/Object;)Ljava/lang/Object;"), (0, .fieldref 14 15), (0, .class_ 16), (0, .nameAndType 17 18), (0, u "java/util/ImmutableCollections$List12"), (0, u "e0"), (0, u "Ljava/lang/Object;"), (0, .fieldref 20 21), (0, .class_ 22), (0, .nameAndType 23 18), (0, u "java/util/ImmutableCollections"), (0, u "EMPTY"), (0, .fieldref 14 25), (0, .nameAndType 26 18), (0, u "e1"), (43, .class_ 71), (0, u "java/io/Serializable"), (4, u "(Ljava/lang/Object;)V"), (8, u "(Ljava/lang/Object;Ljava/lang/Object;)V")] 39

def k23c0 : Code := { maxStack := 2, maxLocals := 2, code := jdk_44_method_1_code, exceptionTable := #[], attributes := #[] }
def k23m0 : Method := { name := "<init>", desc := "(Ljava/lang/Object;)V", sig := { parameters := [(.object "java/lang/Object")], returnType := none }, accessFlags := 0, code := some k23c0 }
def k23c1 : Code := { maxStack := 2, maxLocals := 3, code := jdk_44_method_2_code, exceptionTable := #[], attributes := #[] }
def k23m1 : Method := { name := "<init>", desc := "(Ljava/lang/Object;Ljava/lang/Object;)V", sig := { parameters := [(.object "java/lang/Object"), (.object "java/lang/Object")], returnType := none }, accessFlags := 0, code := some k23c1 }
/-- java/util/ImmutableCollections$List12 -/
def k23 : Class := { plain "java/util/ImmutableCollections$List12" (some 22) with
  accessFlags := 48
  interfaces := #[10]
  cf := some (fileOf pool23 14 #[.nestHost 20] #[{ accessFlags := 0, nameIndex := 5, descriptorIndex := 76, attributes := #[] }, { accessFlags := 0, nameIndex := 5, descriptorIndex := 85, attributes := #[] }] 48 2 #[70] #[{ accessFlags := 18, nameIndex := 17, descriptorIndex := 18, attributes := #[] }, { accessFlags := 18, nameIndex := 26, descriptorIndex := 18, attributes := #[] }])
  fields := #[{ name := "e0", type := (.object "java/lang/Object"), accessFlags := 18, slot := 0, constantValue := 0 }, { name := "e1", type := (.object "java/lang/Object"), accessFlags := 18, slot := 1, constantValue := 0 }]
  methods := #[k23m0, k23m1]
  instanceTypes := #[(.object "java/lang/Object"), (.object "java/lang/Object")]
  staticTypes := #[]
  resolved := Array.replicate 125 none
  statics := none }

def pool24 : Array CpInfo := pool [(2, .class_ 4), (1, u "java/util/ImmutableCollections$AbstractImmutableList"), (2, .fieldref 8 9), (0, .class_ 10), (0, .nameAndType 11 12), (0, u "java/util/ImmutableCollections$ListN"), (0, u "elements"), (0, u "[Ljava/lang/Object;"), (2, u "allowNulls"), (0, u "Z"), (42, .class_ 60), (0, u "java/io/Serializable"), (13, u "isEmpty"), (0, u "()Z"), (38, .class_ 115), (0, u "java/util/ImmutableCollections")] 3

def k24c0 : Code := { maxStack := 1, maxLocals := 1, code := jdk_45_method_2_code, exceptionTable := #[], attributes := #[] }
def k24m0 : Method := { name := "isEmpty", desc := "()Z", sig := { parameters := [], returnType := some .boolean }, accessFlags := 1, code := some k24c0 }
/-- java/util/ImmutableCollections$ListN -/
def k24 : Class := { plain "java/util/ImmutableCollections$ListN" (some 22) with
  accessFlags := 48
  interfaces := #[10]
  cf := some (fileOf pool24 8 #[.nestHost 114] #[{ accessFlags := 1, nameIndex := 74, descriptorIndex := 75, attributes := #[] }] 48 2 #[59] #[{ accessFlags := 18, nameIndex := 11, descriptorIndex := 12, attributes := #[] }, { accessFlags := 18, nameIndex := 15, descriptorIndex := 16, attributes := #[] }])
  fields := #[{ name := "elements", type := (.array (.object "java/lang/Object")), accessFlags := 18, slot := 0, constantValue := 0 }, { name := "allowNulls", type := .boolean, accessFlags := 18, slot := 1, constantValue := 0 }]
  methods := #[k24m0]
  instanceTypes := #[(.array (.object "java/lang/Object")), .boolean]
  staticTypes := #[]
  resolved := Array.replicate 119 none
  statics := none }

def pool25 : Array CpInfo := pool [(2, .class_ 4), (1, u "java/lang/Object"), (0, u "<init>"), (0, u "()V"), (35, .class_ 44), (1, u "java/util/Objects"), (0, u "requireNonNull"), (0, u "(Ljava/lang/Object;)Ljava/lang/Object;"), (47, u "(Ljava/lang/Object;Ljava/lang/String;)Ljava/lang/Object;")] 89

def k25m0 : Method := { name := "<init>", desc := "()V", sig := { parameters := [], returnType := none }, accessFlags := 2, code := none }
def k25c1 : Code := { maxStack := 2, maxLocals := 1, code := jdk_31_method_10_code, exceptionTable := #[], attributes := #[] }
def k25m1 : Method := { name := "requireNonNull", desc := "(Ljava/lang/Object;)Ljava/lang/Object;", sig := { parameters := [(.object "java/lang/Object")], returnType := some (.object "java/lang/Object") }, accessFlags := 9, code := some k25c1 }
def k25c2 : Code := { maxStack := 3, maxLocals := 2, code := jdk_31_method_11_code, exceptionTable := #[], attributes := #[] }
def k25m2 : Method := { name := "requireNonNull", desc := "(Ljava/lang/Object;Ljava/lang/String;)Ljava/lang/Object;", sig := { parameters := [(.object "java/lang/Object"), (.object "java/lang/String")], returnType := some (.object "java/lang/Object") }, accessFlags := 9, code := some k25c2 }
/-- java/util/Objects -/
def k25 : Class := { plain "java/util/Objects" (some 0) with
  accessFlags := 49
  interfaces := #[]
  cf := some (fileOf pool25 42 #[] #[{ accessFlags := 2, nameIndex := 5, descriptorIndex := 6, attributes := #[] }, { accessFlags := 9, nameIndex := 45, descriptorIndex := 46, attributes := #[] }, { accessFlags := 9, nameIndex := 45, descriptorIndex := 94, attributes := #[] }] 49 2 #[] #[])
  fields := #[]
  methods := #[k25m0, k25m1, k25m2]
  instanceTypes := #[]
  staticTypes := #[]
  resolved := Array.replicate 184 none
  statics := none }

def pool26 : Array CpInfo := pool [(6, .class_ 8), (1, u "java/lang/Object"), (0, u "<init>"), (0, u "()V"), (1, .class_ 14), (1, u "java/lang/StringUTF16"), (31, u "$assertionsDisabled"), (0, u "Z"), (13, u "HI_BYTE_SHIFT"), (0, u "I"), (2, u "LO_BYTE_SHIFT"), (49, .methodref 12 116), (0, .nameAndType 117 118), (0, u "compress"), (0, u "([CI[BII)I"), (3, u "([CII)[B"), (138, u "coderFromArrayLen"), (0, u "([BI)B"), (106, .class_ 371), (1, u "java/lang/StringUTF16$LinesSpliterator"), (58, u "MAX_LENGTH"), (196, .class_ 628), (0, u "java/lang/StringUTF16$CodePointsSpliterator"), (0, .class_ 630), (0, u "java/lang/StringUTF16$CharsSpliterator")] 4

def k26m0 : Method := { name := "<init>", desc := "()V", sig := { parameters := [], returnType := none }, accessFlags := 0, code := none }
def k26c1 : Code := { maxStack := 2, maxLocals := 2, code := jdk_52_method_15_code, exceptionTable := #[], attributes := #[] }
def k26m1 : Method := { name := "coderFromArrayLen", desc := "([BI)B", sig := { parameters := [(.array .byte), .int], returnType := some .byte }, accessFlags := 8, code := some k26c1 }
def k26c2 : Code := { maxStack := 5, maxLocals := 6, code := jdk_52_method_16_code, exceptionTable := #[], attributes := #[] }
def k26m2 : Method := { name := "compress", desc := "([CII)[B", sig := { parameters := [(.array .char), .int, .int], returnType := some (.array .byte) }, accessFlags := 9, code := some k26c2 }
def k26c3 : Code := { maxStack := 3, maxLocals := 7, code := jdk_52_method_21_code, exceptionTable := #[], attributes := #[] }
def k26m3 : Method := { name := "compress", desc := "([CI[BII)I", sig := { parameters := [(.array .char), .int, (.array .byte), .int, .int], returnType := some .int }, accessFlags := 9, code := some k26c3 }
/-- java/lang/StringUTF16 -/
def k26 : Class := { plain "java/lang/StringUTF16" (some 0) with
  accessFlags := 48
  interfaces := #[]
  cf := some (fileOf pool26 12 #[.nestMembers #[627, 629, 369]] #[{ accessFlags := 0, nameIndex := 9, descriptorIndex := 10, attributes := #[] }, { accessFlags := 8, nameIndex := 261, descriptorIndex := 262, attributes := #[] }, { accessFlags := 9, nameIndex := 117, descriptorIndex := 122, attributes := #[] }, { accessFlags := 9, nameIndex := 117, descriptorIndex := 118, attributes := #[] }] 48 6 #[] #[{ accessFlags := 26, nameIndex := 61, descriptorIndex := 62, attributes := #[] }, { accessFlags := 26, nameIndex := 65, descriptorIndex := 62, attributes := #[] }, { accessFlags := 24, nameIndex := 430, descriptorIndex := 62, attributes := #[] }, { accessFlags := 4120, nameIndex := 46, descriptorIndex := 47, attributes := #[] }])
  fields := #[{ name := "HI_BYTE_SHIFT", type := .int, accessFlags := 26, slot := 0, constantValue := 0 }, { name := "LO_BYTE_SHIFT", type := .int, accessFlags := 26, slot := 1, constantValue := 0 }, { name := "MAX_LENGTH", type := .int, accessFlags := 24, slot := 2, constantValue := 0 }, { name := "$assertionsDisabled", type := .boolean, accessFlags := 4120, slot := 3, constantValue := 0 }]
  methods := #[k26m0, k26m1, k26m2, k26m3]
  instanceTypes := #[]
  staticTypes := #[.int, .int, .int, .boolean]
  resolved := Array.replicate 635 none
  statics := none }

def pool27 : Array CpInfo := pool [(1, .methodref 2 3), (0, .class_ 4), (0, .nameAndType 5 6), (0, u "java/lang/Object"), (0, u "<init>"), (0, u "()V"), (0, .fieldref 8 9), (0, .class_ 10), (0, .nameAndType 11 12), (0, u "com/example/hybrev/hybrev/RevocationEvent"), (0, u "kind"), (0, u "Lcom/example/hybrev/hybrev/RevocationEvent$Kind;"), (0, .fieldref 8 14), (0, .nameAndType 15 16), (0, u "id"), (0, u "Ljava/lang/String;"), (0, u "(Lcom/example/hybrev/hybrev/RevocationEvent$Kind;Ljava/lang/String;)V"), (9, .class_ 28), (0, u "com/example/hybrev/hybrev/RevocationEvent$Kind")] 2

def k27c0 : Code := { maxStack := 2, maxLocals := 3, code := prog_16_method_1_code, exceptionTable := #[], attributes := #[] }
def k27m0 : Method := { name := "<init>", desc := "(Lcom/example/hybrev/hybrev/RevocationEvent$Kind;Ljava/lang/String;)V", sig := { parameters := [(.object "com/example/hybrev/hybrev/RevocationEvent$Kind"), (.object "java/lang/String")], returnType := none }, accessFlags := 1, code := some k27c0 }
/-- com/example/hybrev/hybrev/RevocationEvent -/
def k27 : Class := { plain "com/example/hybrev/hybrev/RevocationEvent" (some 0) with
  accessFlags := 49
  interfaces := #[]
  cf := some (fileOf pool27 8 #[.nestMembers #[27]] #[{ accessFlags := 1, nameIndex := 5, descriptorIndex := 17, attributes := #[] }] 49 2 #[] #[{ accessFlags := 18, nameIndex := 11, descriptorIndex := 12, attributes := #[] }, { accessFlags := 18, nameIndex := 15, descriptorIndex := 16, attributes := #[] }])
  fields := #[{ name := "kind", type := (.object "com/example/hybrev/hybrev/RevocationEvent$Kind"), accessFlags := 18, slot := 0, constantValue := 0 }, { name := "id", type := (.object "java/lang/String"), accessFlags := 18, slot := 1, constantValue := 0 }]
  methods := #[k27m0]
  instanceTypes := #[(.object "com/example/hybrev/hybrev/RevocationEvent$Kind"), (.object "java/lang/String")]
  staticTypes := #[]
  resolved := Array.replicate 31 none
  statics := none }

def pool28 : Array CpInfo := pool [(1, .class_ 2), (0, u "java/lang/Math"), (1, .class_ 6), (1, u "java/lang/Object"), (0, u "<init>"), (0, u "()V"), (89, .class_ 100), (1, u "java/lang/Math$RandomNumberGeneratorHolder"), (71, u "negativeZeroFloatBits"), (0, u "J"), (2, u "negativeZeroDoubleBits"), (21, u "max"), (2, u "min"), (43, u "$assertionsDisabled"), (0, u "Z"), (88, u "(II)I"), (2, u "twoToTheDoubleScaleDown"), (0, u "D"), (4, u "twoToTheDoubleScaleUp"), (9, u "E"), (3, u "PI"), (2, u "TAU"), (2, u "DEGREES_TO_RADIANS"), (0, u "RADIANS_TO_DEGREES")] 94

def k28m0 : Method := { name := "<init>", desc := "()V", sig := { parameters := [], returnType := none }, accessFlags := 2, code := none }
def k28c1 : Code := { maxStack := 2, maxLocals := 2, code := jdk_29_method_65_code, exceptionTable := #[], attributes := #[] }
def k28m1 : Method := { name := "max", desc := "(II)I", sig := { parameters := [.int, .int], returnType := some .int }, accessFlags := 9, code := some k28c1 }
def k28c2 : Code := { maxStack := 2, maxLocals := 2, code := jdk_29_method_69_code, exceptionTable := #[], attributes := #[] }
def k28m2 : Method := { name := "min", desc := "(II)I", sig := { parameters := [.int, .int], returnType := some .int }, accessFlags := 9, code := some k28c2 }
/-- java/lang/Math -/
def k28 : Class := { plain "java/lang/Math" (some 0) with
  accessFlags := 49
  interfaces := #[]
  cf := some (fileOf pool28 1 #[.nestMembers #[98]] #[{ accessFlags := 2, nameIndex := 7, descriptorIndex := 8, attributes := #[] }, { accessFlags := 9, nameIndex := 198, descriptorIndex := 335, attributes := #[] }, { accessFlags := 9, nameIndex := 201, descriptorIndex := 335, attributes := #[] }] 49 4 #[] #[{ accessFlags := 25, nameIndex := 354, descriptorIndex := 339, attributes := #[] }, { accessFlags := 25, nameIndex := 358, descriptorIndex := 339, attributes := #[] }, { accessFlags := 25, nameIndex := 361, descriptorIndex := 339, attributes := #[] }, { accessFlags := 26, nameIndex := 364, descriptorIndex := 339, attributes := #[] }, { accessFlags := 26, nameIndex := 365, descriptorIndex := 339, attributes := #[] }, { accessFlags := 26, nameIndex := 172, descriptorIndex := 173, attributes := #[] }, { accessFlags := 26, nameIndex := 176, descriptorIndex := 173, attributes := #[] }, { accessFlags := 8, nameIndex := 344, descriptorIndex := 339, attributes := #[] }, { accessFlags := 8, nameIndex := 338, descriptorIndex := 339, attributes := #[] }, { accessFlags := 4120, nameIndex := 245, descriptorIndex := 246, attributes := #[] }])
  fields := #[{ name := "E", type := .double, accessFlags := 25, slot := 0, constantValue := 0 }, { name := "PI", type := .double, accessFlags := 25, slot := 1, constantValue := 0 }, { name := "TAU", type := .double, accessFlags := 25, slot := 2, constantValue := 0 }, { name := "DEGREES_TO_RADIANS", type := .double, accessFlags := 26, slot := 3, constantValue := 0 }, { name := "RADIANS_TO_DEGREES", type := .double, accessFlags := 26, slot := 4, constantValue := 0 }, { name := "negativeZeroFloatBits", type := .long, accessFlags := 26, slot := 5, constantValue := 0 }, { name := "negativeZeroDoubleBits", type := .long, accessFlags := 26, slot := 6, constantValue := 0 }, { name := "twoToTheDoubleScaleUp", type := .double, accessFlags := 8, slot := 7, constantValue := 0 }, { name := "twoToTheDoubleScaleDown", type := .double, accessFlags := 8, slot := 8, constantValue := 0 }, { name := "$assertionsDisabled", type := .boolean, accessFlags := 4120, slot := 9, constantValue := 0 }]
  methods := #[k28m0, k28m1, k28m2]
  instanceTypes := #[]
  staticTypes := #[.double, .double, .double, .double, .double, .long, .long, .double, .double, .boolean]
  resolved := Array.replicate 460 none
  statics := none }

def pool29 : Array CpInfo := pool [(2, .class_ 4), (1, u "java/lang/Object"), (0, u "<init>"), (0, u "()V"), (7, .class_ 16), (1, u "java/util/Arrays"), (57, .class_ 76), (1, u "java/util/Arrays$NaturalOrder"), (9, .methodref 2 87), (0, .nameAndType 88 89), (0, u "getClass"), (0, u "()Ljava/lang/Class;"), (20, .class_ 111), (0, u "[Ljava/lang/Object;"), (1, .class_ 115), (1, u "java/util/Arrays$LegacyMergeSort"), (1, u "Z"), (32, .methodref 151 152), (0, .class_ 153), (0, .nameAndType 154 155), (0, u "java/lang/System"), (0, u "arraycopy"), (0, u "(Ljava/lang/Object;ILjava/lang/Object;II)V"), (144, .methodref 14 301), (0, .nameAndType 302 303), (0, u "copyOf"), (0, u "([Ljava/lang/Object;ILjava/lang/Class;)[Ljava/lang/Object;"), (0, .methodref 305 306), (0, .class_ 307), (0, .nameAndType 308 309), (0, u "java/lang/Math"), (0, u "min"), (0, u "(II)I"), (65, .class_ 376), (0, u "java/util/Arrays$ArrayList"), (68, u "$assertionsDisabled"), (269, u "MIN_ARRAY_SORT_GRAN"), (0, u "I"), (2, u "INSERTIONSORT_THRESHOLD"), (140, u "([Ljava/lang/Object;I)[Ljava/lang/Object;"), (114, .class_ 976), (0, u "java/util/Arrays$ArrayItr")] 52

def k29m0 : Method := { name := "<init>", desc := "()V", sig := { parameters := [], returnType := none }, accessFlags := 2, code := none }
def k29c1 : Code := { maxStack := 3, maxLocals := 2, code := jdk_65_method_119_code, exceptionTable := #[], attributes := #[] }
def k29m1 : Method := { name := "copyOf", desc := "([Ljava/lang/Object;I)[Ljava/lang/Object;", sig := { parameters := [(.array (.object "java/lang/Object")), .int], returnType := some (.array (.object "java/lang/Object")) }, accessFlags := 9, code := some k29c1 }
def k29c2 : Code := { maxStack := 6, maxLocals := 4, code := jdk_65_method_120_code, exceptionTable := #[], attributes := #[] }
def k29m2 : Method := { name := "copyOf", desc := "([Ljava/lang/Object;ILjava/lang/Class;)[Ljava/lang/Object;", sig := { parameters := [(.array (.object "java/lang/Object")), .int, (.object "java/lang/Class")], returnType := some (.array (.object "java/lang/Object")) }, accessFlags := 9, code := some k29c2 }
/-- java/util/Arrays -/
def k29 : Class := { plain "java/util/Arrays" (some 0) with
  accessFlags := 49
  interfaces := #[]
  cf := some (fileOf pool29 14 #[.nestMembers #[975, 375, 113, 74]] #[{ accessFlags := 2, nameIndex := 5, descriptorIndex := 6, attributes := #[] }, { accessFlags := 9, nameIndex := 302, descriptorIndex := 860, attributes := #[] }, { accessFlags := 9, nameIndex := 302, descriptorIndex := 303, attributes := #[] }] 49 2 #[] #[{ accessFlags := 26, nameIndex := 715, descriptorIndex := 716, attributes := #[] }, { accessFlags := 26, nameIndex := 719, descriptorIndex := 716, attributes := #[] }, { accessFlags := 4120, nameIndex := 445, descriptorIndex := 117, attributes := #[] }])
  fields := #[{ name := "MIN_ARRAY_SORT_GRAN", type := .int, accessFlags := 26, slot := 0, constantValue := 0 }, { name := "INSERTIONSORT_THRESHOLD", type := .int, accessFlags := 26, slot := 1, constantValue := 0 }, { name := "$assertionsDisabled", type := .boolean, accessFlags := 4120, slot := 2, constantValue := 0 }]
  methods := #[k29m0, k29m1, k29m2]
  instanceTypes := #[]
  staticTypes := #[.int, .int, .boolean]
  resolved := Array.replicate 1029 none
  statics := none }

def pool30 : Array CpInfo := pool [(2, .class_ 4), (1, u "java/lang/Object"), (0, u "<init>"), (0, u "()V"), (1, .class_ 10), (1, u "java/lang/System"), (0, u "allowSecurityManager"), (0, u "I"), (16, u "cons"), (0, u "Ljava/io/Console;"), (77, .class_ 110), (1, u "java/lang/System$CallersHolder"), (43, u "initialErrStream"), (0, u "Ljava/io/PrintStream;"), (19, u "security"), (0, u "Ljava/lang/SecurityManager;"), (31, .class_ 209), (0, u "java/lang/System$1"), (7, u "props"), (0, u "Ljava/util/Properties;"), (2, u "lineSeparator"), (0, u "Ljava/lang/String;"), (96, .class_ 321), (1, u "java/lang/System$LoggerFinder"), (5, .class_ 328), (0, u "java/lang/System$Logger"), (67, u "err"), (2, u "out"), (91, u "notSupportedJnuEncoding"), (15, u "in"), (17, u "initialIn"), (0, u "Ljava/io/InputStream;"), (35, u "bootLayer"), (0, u "Ljava/lang/ModuleLayer;"), (99, .class_ 664), (0, u "java/lang/System$2"), (9, u "NEVER"), (2, u "MAYBE"), (49, u "arraycopy"), (0, u "(Ljava/lang/Object;ILjava/lang/Object;II)V"), (72, .class_ 802), (0, u "java/lang/System$Logger$Level")] 31

def k30m0 : Method := { name := "<init>", desc := "()V", sig := { parameters := [], returnType := none }, accessFlags := 2, code := none }
def k30m1 : Method := { name := "arraycopy", desc := "(Ljava/lang/Object;ILjava/lang/Object;II)V", sig := { parameters := [(.object "java/lang/Object"), .int, (.object "java/lang/Object"), .int, .int], returnType := none }, accessFlags := 265, code := none }
/-- java/lang/System -/
def k30 : Class := { plain "java/lang/System" (some 0) with
  accessFlags := 49
  interfaces := #[]
  cf := some (fileOf pool30 8 #[.nestMembers #[319, 327, 801, 108, 663, 208]] #[{ accessFlags := 2, nameIndex := 5, descriptorIndex := 6, attributes := #[] }, { accessFlags := 265, nameIndex := 727, descriptorIndex := 728, attributes := #[] }] 49 2 #[] #[{ accessFlags := 25, nameIndex := 507, descriptorIndex := 526, attributes := #[] }, { accessFlags := 25, nameIndex := 399, descriptorIndex := 155, attributes := #[] }, { accessFlags := 25, nameIndex := 396, descriptorIndex := 155, attributes := #[] }, { accessFlags := 10, nameIndex := 525, descriptorIndex := 526, attributes := #[] }, { accessFlags := 26, nameIndex := 674, descriptorIndex := 12, attributes := #[] }, { accessFlags := 26, nameIndex := 677, descriptorIndex := 12, attributes := #[] }, { accessFlags := 10, nameIndex := 11, descriptorIndex := 12, attributes := #[] }, { accessFlags := 74, nameIndex := 175, descriptorIndex := 176, attributes := #[] }, { accessFlags := 10, nameIndex := 491, descriptorIndex := 222, attributes := #[] }, { accessFlags := 74, nameIndex := 29, descriptorIndex := 30, attributes := #[] }, { accessFlags := 74, nameIndex := 154, descriptorIndex := 155, attributes := #[] }, { accessFlags := 10, nameIndex := 217, descriptorIndex := 218, attributes := #[] }, { accessFlags := 10, nameIndex := 221, descriptorIndex := 222, attributes := #[] }, { accessFlags := 8, nameIndex := 562, descriptorIndex := 563, attributes := #[] }])
  fields := #[{ name := "in", type := (.object "java/io/InputStream"), accessFlags := 25, slot := 0, constantValue := 0 }, { name := "out", type := (.object "java/io/PrintStream"), accessFlags := 25, slot := 1, constantValue := 0 }, { name := "err", type := (.object "java/io/PrintStream"), accessFlags := 25, slot := 2, constantValue := 0 }, { name := "initialIn", type := (.object "java/io/InputStream"), accessFlags := 10, slot := 3, constantValue := 0 }, { name := "NEVER", type := .int, accessFlags := 26, slot := 4, constantValue := 0 }, { name := "MAYBE", type := .int, accessFlags := 26, slot := 5, constantValue := 0 }, { name := "allowSecurityManager", type := .int, accessFlags := 10, slot := 6, constantValue := 0 }, { name := "security", type := (.object "java/lang/SecurityManager"), accessFlags := 74, slot := 7, constantValue := 0 }, { name := "notSupportedJnuEncoding", type := (.object "java/lang/String"), accessFlags := 10, slot := 8, constantValue := 0 }, { name := "cons", type := (.object "java/io/Console"), accessFlags := 74, slot := 9, constantValue := 0 }, { name := "initialErrStream", type := (.object "java/io/PrintStream"), accessFlags := 74, slot := 10, constantValue := 0 }, { name := "props", type := (.object "java/util/Properties"), accessFlags := 10, slot := 11, constantValue := 0 }, { name := "lineSeparator", type := (.object "java/lang/String"), accessFlags := 10, slot := 12, constantValue := 0 }, { name := "bootLayer", type := (.object "java/lang/ModuleLayer"), accessFlags := 8, slot := 13, constantValue := 0 }]
  methods := #[k30m0, k30m1]
  instanceTypes := #[]
  staticTypes := #[(.object "java/io/InputStream"), (.object "java/io/PrintStream"), (.object "java/io/PrintStream"), (.object "java/io/InputStream"), .int, .int, .int, (.object "java/lang/SecurityManager"), (.object "java/lang/String"), (.object "java/io/Console"), (.object "java/io/PrintStream"), (.object "java/util/Properties"), (.object "java/lang/String"), (.object "java/lang/ModuleLayer")]
  resolved := Array.replicate 834 none
  statics := none }

def pool31 : Array CpInfo := pool [(4, .class_ 6), (1, u "java/lang/Object"), (0, u "<init>"), (0, u "()V"), (5, .class_ 16), (1, u "java/lang/StringLatin1"), (104, u "$assertionsDisabled"), (0, u "Z"), (98, .class_ 223), (1, u "java/lang/StringLatin1$LinesSpliterator"), (166, .class_ 391), (0, u "java/lang/StringLatin1$CharsSpliterator")] 3

def k31m0 : Method := { name := "<init>", desc := "()V", sig := { parameters := [], returnType := none }, accessFlags := 0, code := none }
/-- java/lang/StringLatin1 -/
def k31 : Class := { plain "java/lang/StringLatin1" (some 0) with
  accessFlags := 48
  interfaces := #[]
  cf := some (fileOf pool31 14 #[.nestMembers #[390, 221]] #[{ accessFlags := 0, nameIndex := 7, descriptorIndex := 8, attributes := #[] }] 48 4 #[] #[{ accessFlags := 4120, nameIndex := 121, descriptorIndex := 122, attributes := #[] }])
  fields := #[{ name := "$assertionsDisabled", type := .boolean, accessFlags := 4120, slot := 0, constantValue := 0 }]
  methods := #[k31m0]
  instanceTypes := #[]
  staticTypes := #[.boolean]
  resolved := Array.replicate 395 none
  statics := none }

def pool32 : Array CpInfo := pool [(2, .class_ 4), (1, u "java/lang/Object"), (0, u "<init>"), (0, u "()V"), (17, .class_ 26), (1, u "jdk/internal/util/Preconditions"), (28, .class_ 56), (0, u "jdk/internal/util/Preconditions$4"), (57, .class_ 115), (0, u "jdk/internal/util/Preconditions$1"), (7, u "SIOOBE_FORMATTER"), (0, u "Ljava/util/function/BiFunction;"), (0, .class_ 126), (0, u "jdk/internal/util/Preconditions$2"), (3, u "AIOOBE_FORMATTER"), (0, .class_ 132), (0, u "jdk/internal/util/Preconditions$3"), (3, u "IOOBE_FORMATTER")] 57

def k32m0 : Method := { name := "<init>", desc := "()V", sig := { parameters := [], returnType := none }, accessFlags := 1, code := none }
/-- jdk/internal/util/Preconditions -/
def k32 : Class := { plain "jdk/internal/util/Preconditions" (some 0) with
  accessFlags := 33
  interfaces := #[]
  cf := some (fileOf pool32 24 #[.nestMembers #[55, 131, 125, 114]] #[{ accessFlags := 1, nameIndex := 5, descriptorIndex := 6, attributes := #[] }] 33 2 #[] #[{ accessFlags := 25, nameIndex := 123, descriptorIndex := 124, attributes := #[] }, { accessFlags := 25, nameIndex := 130, descriptorIndex := 124, attributes := #[] }, { accessFlags := 25, nameIndex := 136, descriptorIndex := 124, attributes := #[] }])
  fields := #[{ name := "SIOOBE_FORMATTER", type := (.object "java/util/function/BiFunction"), accessFlags := 25, slot := 0, constantValue := 0 }, { name := "AIOOBE_FORMATTER", type := (.object "java/util/function/BiFunction"), accessFlags := 25, slot := 1, constantValue := 0 }, { name := "IOOBE_FORMATTER", type := (.object "java/util/function/BiFunction"), accessFlags := 25, slot := 2, constantValue := 0 }]
  methods := #[k32m0]
  instanceTypes := #[]
  staticTypes := #[(.object "java/util/function/BiFunction"), (.object "java/util/function/BiFunction"), (.object "java/util/function/BiFunction")]
  resolved := Array.replicate 194 none
  statics := some 5 }

def pool33 : Array CpInfo := pool [(9, u "<init>"), (6, .class_ 18), (1, u "java/lang/Object"), (0, u "()V"), (1, .class_ 23), (1, u "jdk/internal/util/ArraysSupport"), (0, u "LOG2_ARRAY_LONG_INDEX_SCALE"), (0, u "I"), (2, u "U"), (0, u "Ljdk/internal/misc/Unsafe;"), (8, u "BIG_ENDIAN"), (0, u "Z"), (8, u "LOG2_BYTE_BIT_SIZE"), (4, u "LOG2_ARRAY_INT_INDEX_SCALE"), (54, u "JLA"), (0, u "Ljdk/internal/access/JavaLangAccess;"), (11, u "LOG2_ARRAY_BOOLEAN_INDEX_SCALE"), (9, u "LOG2_ARRAY_BYTE_INDEX_SCALE"), (5, u "LOG2_ARRAY_CHAR_INDEX_SCALE"), (5, u "LOG2_ARRAY_SHORT_INDEX_SCALE"), (18, u "LOG2_ARRAY_FLOAT_INDEX_SCALE"), (24, u "LOG2_ARRAY_DOUBLE_INDEX_SCALE"), (89, u "T_BOOLEAN"), (2, u "T_CHAR"), (1, u "T_FLOAT"), (1, u "T_DOUBLE"), (1, u "T_BYTE"), (1, u "T_SHORT"), (1, u "T_INT"), (1, u "T_LONG"), (1, u "SOFT_MAX_ARRAY_LENGTH")] 83

def k33m0 : Method := { name := "<init>", desc := "()V", sig := { parameters := [], returnType := none }, accessFlags := 2, code := none }
/-- jdk/internal/util/ArraysSupport -/
def k33 : Class := { plain "jdk/internal/util/ArraysSupport" (some 0) with
  accessFlags := 33
  interfaces := #[]
  cf := some (fileOf pool33 21 #[] #[{ accessFlags := 2, nameIndex := 9, descriptorIndex := 19, attributes := #[] }] 33 16 #[] #[{ accessFlags := 24, nameIndex := 28, descriptorIndex := 29, attributes := #[] }, { accessFlags := 26, nameIndex := 38, descriptorIndex := 39, attributes := #[] }, { accessFlags := 25, nameIndex := 121, descriptorIndex := 25, attributes := #[] }, { accessFlags := 25, nameIndex := 131, descriptorIndex := 25, attributes := #[] }, { accessFlags := 25, nameIndex := 137, descriptorIndex := 25, attributes := #[] }, { accessFlags := 25, nameIndex := 143, descriptorIndex := 25, attributes := #[] }, { accessFlags := 25, nameIndex := 53, descriptorIndex := 25, attributes := #[] }, { accessFlags := 25, nameIndex := 24, descriptorIndex := 25, attributes := #[] }, { accessFlags := 25, nameIndex := 162, descriptorIndex := 25, attributes := #[] }, { accessFlags := 25, nameIndex := 187, descriptorIndex := 25, attributes := #[] }, { accessFlags := 26, nameIndex := 48, descriptorIndex := 25, attributes := #[] }, { accessFlags := 25, nameIndex := 277, descriptorIndex := 25, attributes := #[] }, { accessFlags := 25, nameIndex := 280, descriptorIndex := 25, attributes := #[] }, { accessFlags := 25, nameIndex := 282, descriptorIndex := 25, attributes := #[] }, { accessFlags := 25, nameIndex := 284, descriptorIndex := 25, attributes := #[] }, { accessFlags := 25, nameIndex := 286, descriptorIndex := 25, attributes := #[] }, { accessFlags := 25, nameIndex := 288, descriptorIndex := 25, attributes := #[] }, { accessFlags := 25, nameIndex := 290, descriptorIndex := 25, attributes := #[] }, { accessFlags := 25, nameIndex := 292, descriptorIndex := 25, attributes := #[] }, { accessFlags := 26, nameIndex := 108, descriptorIndex := 109, attributes := #[] }, { accessFlags := 25, nameIndex := 294, descriptorIndex := 25, attributes := #[] }])
  fields := #[{ name := "U", type := (.object "jdk/internal/misc/Unsafe"), accessFlags := 24, slot := 0, constantValue := 0 }, { name := "BIG_ENDIAN", type := .boolean, accessFlags := 26, slot := 1, constantValue := 0 }, { name := "LOG2_ARRAY_BOOLEAN_INDEX_SCALE", type := .int, accessFlags := 25, slot := 2, constantValue := 0 }, { name := "LOG2_ARRAY_BYTE_INDEX_SCALE", type := .int, accessFlags := 25, slot := 3, constantValue := 0 }, { name := "LOG2_ARRAY_CHAR_INDEX_SCALE", type := .int, accessFlags := 25, slot := 4, constantValue := 0 }, { name := "LOG2_ARRAY_SHORT_INDEX_SCALE", type := .int, accessFlags := 25, slot := 5, constantValue := 0 }, { name := "LOG2_ARRAY_INT_INDEX_SCALE", type := .int, accessFlags := 25, slot := 6, constantValue := 0 }, { name := "LOG2_ARRAY_LONG_INDEX_SCALE", type := .int, accessFlags := 25, slot := 7, constantValue := 0 }, { name := "LOG2_ARRAY_FLOAT_INDEX_SCALE", type := .int, accessFlags := 25, slot := 8, constantValue := 0 }, { name := "LOG2_ARRAY_DOUBLE_INDEX_SCALE", type := .int, accessFlags := 25, slot := 9, constantValue := 0 }, { name := "LOG2_BYTE_BIT_SIZE", type := .int, accessFlags := 26, slot := 10, constantValue := 0 }, { name := "T_BOOLEAN", type := .int, accessFlags := 25, slot := 11, constantValue := 0 }, { name := "T_CHAR", type := .int, accessFlags := 25, slot := 12, constantValue := 0 }, { name := "T_FLOAT", type := .int, accessFlags := 25, slot := 13, constantValue := 0 }, { name := "T_DOUBLE", type := .int, accessFlags := 25, slot := 14, constantValue := 0 }, { name := "T_BYTE", type := .int, accessFlags := 25, slot := 15, constantValue := 0 }, { name := "T_SHORT", type := .int, accessFlags := 25, slot := 16, constantValue := 0 }, { name := "T_INT", type := .int, accessFlags := 25, slot := 17, constantValue := 0 }, { name := "T_LONG", type := .int, accessFlags := 25, slot := 18, constantValue := 0 }, { name := "JLA", type := (.object "jdk/internal/access/JavaLangAccess"), accessFlags := 26, slot := 19, constantValue := 0 }, { name := "SOFT_MAX_ARRAY_LENGTH", type := .int, accessFlags := 25, slot := 20, constantValue := 0 }]
  methods := #[k33m0]
  instanceTypes := #[]
  staticTypes := #[(.object "jdk/internal/misc/Unsafe"), .boolean, .int, .int, .int, .int, .int, .int, .int, .int, .int, .int, .int, .int, .int, .int, .int, .int, .int, (.object "jdk/internal/access/JavaLangAccess"), .int]
  resolved := Array.replicate 378 none
  statics := none }

/-- the primitive byte -/
def k34 : Class := { plain "byte" none with kind := .primitive 'B', accessFlags := 0x411 }
/-- [B -/
def k35 : Class := { plain "[B" (some 0) with kind := .array 34 .byte, interfaces := #[9, 10], accessFlags := 1041 }

/-- the primitive char -/
def k36 : Class := { plain "char" none with kind := .primitive 'C', accessFlags := 0x411 }
/-- [C -/
def k37 : Class := { plain "[C" (some 0) with kind := .array 36 .char, interfaces := #[9, 10], accessFlags := 1041 }

/-- the primitive int -/
def k38 : Class := { plain "int" none with kind := .primitive 'I', accessFlags := 0x411 }
/-- [I -/
def k39 : Class := { plain "[I" (some 0) with kind := .array 38 .int, interfaces := #[9, 10], accessFlags := 1041 }

/-- [Ljava/lang/Object; -/
def k40 : Class := { plain "[Ljava/lang/Object;" (some 0) with kind := .array 0 (.object "java/lang/Object"), interfaces := #[9, 10], accessFlags := 1041, mirror := some 14 }

def heap : Heap := #[{ cls := 11, slots := #[.long 0, .int 0, .ref 8, .ref 7], vm := .statics 11 },
  { cls := 15, slots := #[.ref 11, .ref 12, .null], vm := .statics 15 },
  { cls := 18, slots := #[.long 0, .int 1, .null, .int 0, .null, .int 0, .int 0], vm := .statics 18 },
  { cls := 19, slots := #[.ref 13], vm := .statics 19 },
  { cls := 20, slots := #[.long 0, .int 0, .null, .ref 10, .ref 9, .null, .null, .null, .int 0, .int 1], vm := .statics 20 },
  { cls := 32, slots := #[.null, .null, .null], vm := .statics 32 },
  { cls := 40, slots := #[], vm := .none },
  { cls := 40, slots := #[], vm := .none },
  { cls := 40, slots := #[], vm := .none },
  { cls := 24, slots := #[.ref 6, .int 0], vm := .none },
  { cls := 0, slots := #[], vm := .none },
  { cls := 15, slots := #[.null, .int 0, .int 0], vm := .none },
  { cls := 15, slots := #[.null, .int 1, .int 0], vm := .none },
  { cls := 19, slots := #[.ref 9, .null], vm := .none },
  { cls := 0, slots := #[], vm := .mirror 40 }]
def classes : Array Class := #[k0, k1, k2, k3, k4, k5, k6, k7, k8, k9, k10, k11, k12, k13, k14, k15, k16, k17, k18, k19, k20, k21, k22, k23, k24, k25, k26, k27, k28, k29, k30, k31, k32, k33, k34, k35, k36, k37, k38, k39, k40]
def interned : List (Array UInt16 × Addr) := []
def slotsUsed : Nat := 38
def theMethod : MethodId := ⟨1, 1⟩
def args0 : Array Value := #[.int 0, .int 2, .int 65, .int 66]
def aboutOver (below : List Frame) : State where
  vm := { classes := classes, interned := interned.toArray }
  heap := heap
  slotsUsed := slotsUsed
  threads := #[{ frames := .invoking theMethod args0 :: below }]
def below0 : List Frame := [.native { method := ⟨0, 0⟩, args := #[] }]
def about1 : State := aboutOver below0
def p0 : Program := .bare "" "" ""
def e0 : Env := launch0.env 0 0 0
theorem w_frames : about1.frames = Frame.invoking theMethod args0 :: below0 := rfl
set_option maxRecDepth 65536 in
theorem w_args : argsFit about1.vm theMethod args0 = true := by decide +kernel
set_option maxRecDepth 65536 in
theorem w_heap : heapFits about1 = true := by decide +kernel
set_option maxRecDepth 65536 in
theorem w_runnable : about1.curStatus? = some .runnable := by decide +kernel
set_option maxRecDepth 65536 in
theorem w_alone : about1.alone = true := by decide +kernel
set_option maxRecDepth 65536 in
theorem w_named : about1.methodNamed? x = some theMethod := by decide +kernel
set_option maxRecDepth 65536 in
theorem w_hears : about1.hears theMethod below0 = true := by decide +kernel
set_option maxRecDepth 65536 in
theorem w_ripe : about1.ripe theMethod args0 below0 = true := by decide +kernel
theorem w_running : about1.status = .running := rfl
set_option maxRecDepth 65536 in
theorem w_room : about1.hasRoom e0.platform room_1 = true :=
  launch0.hasRoom_least _ room_1 (by decide +kernel) (by decide +kernel) (by decide +kernel) (by decide +kernel) (by decide +kernel) (by decide +kernel)
theorem allAtoms_all (ts : List Jvm.Cond) (a : Array Jvm.Value) (st : Jvm.State) : (allAtoms ts).before a st = ts.all (fun c => c.before a st) := by
  induction ts with
  | nil => rfl
  | cons c t ih =>
    show (Jvm.Cond.and c (allAtoms t)).before a st = _
    rw [Jvm.Cond.before_and, ih, List.all_cons]
def words1 : List Jvm.Cond := Jvm.Cond.code x code maxLocals ret :: tables_1
/-- a 'code' word, met by the world's own term for the bytes: nothing is compared byte by byte -/
theorem code_word {y : MethodName} {bytes : ByteArray} {mx : Nat} {rt : Option FieldType} {a : Array Value} {s : State} {m : MethodId} {meth : Method} {c : Code} (h1 : s.methodNamed? y = some m) (h2 : s.vm.method? m = some meth) (h3 : meth.code = some c) (h4 : c.code = bytes)
    (h5 : (c.maxLocals == mx && c.exceptionTable.isEmpty && decide (c.maxStack ≤ mostOperands) && decide (meth.sig.returnType = rt) && !meth.locks && decide (parseMethodDescriptor y.desc = some meth.sig)) = true) : (Jvm.Cond.code y bytes mx rt).before a s = true := by
  simp only [Bool.and_eq_true, beq_iff_eq, Bool.not_eq_true', decide_eq_true_eq] at h5
  obtain ⟨⟨⟨⟨⟨g1, g2⟩, g3⟩, g4⟩, g5⟩, g6⟩ := h5
  simp [Cond.before, Cond.holds, Cond.value, h1, h2, h3, h4, g1, g2, g3, g4, g5, g6]
def isCode : Jvm.Cond → Bool
  | .code _ _ _ _ => true
  | _ => false
theorem all_split {L : List Jvm.Cond} {P : Jvm.Cond → Bool} (h1 : L.all (fun c => isCode c || P c) = true) (h2 : ∀ c ∈ L.filter isCode, P c = true) : L.all P = true := by
  refine List.all_eq_true.mpr fun c hc => ?_
  have h := List.all_eq_true.mp h1 c hc
  rcases Bool.eq_false_or_eq_true (isCode c) with hi | hi
  · exact h2 c (List.mem_filter.mpr ⟨hc, hi⟩)
  · simpa [hi] using h
set_option maxRecDepth 65536 in
theorem w_c0 : (Jvm.Cond.code x code maxLocals ret).before args0 about1 = true := code_word (m := ⟨1, 1⟩) (meth := k1m1) (c := k1c1) (by decide +kernel) rfl rfl rfl (by decide +kernel)
set_option maxRecDepth 65536 in
theorem w_c1 : (Jvm.Cond.code ({ cls := "java/util/ArrayList", name := "<init>", desc := "()V" } : Jvm.MethodName) jdk_38_method_2_code (1 : Nat) (Option.none : Option Jvm.ClassFile.FieldType)).before args0 about1 = true := code_word (m := ⟨11, 0⟩) (meth := k11m0) (c := k11c0) (by decide +kernel) rfl rfl rfl (by decide +kernel)
set_option maxRecDepth 65536 in
theorem w_c2 : (Jvm.Cond.code ({ cls := "java/util/AbstractList", name := "<init>", desc := "()V" } : Jvm.MethodName) jdk_39_method_1_code (1 : Nat) (Option.none : Option Jvm.ClassFile.FieldType)).before args0 about1 = true := code_word (m := ⟨7, 0⟩) (meth := k7m0) (c := k7c0) (by decide +kernel) rfl rfl rfl (by decide +kernel)
set_option maxRecDepth 65536 in
theorem w_c3 : (Jvm.Cond.code ({ cls := "java/util/AbstractCollection", name := "<init>", desc := "()V" } : Jvm.MethodName) jdk_22_method_1_code (1 : Nat) (Option.none : Option Jvm.ClassFile.FieldType)).before args0 about1 = true := code_word (m := ⟨4, 0⟩) (meth := k4m0) (c := k4c0) (by decide +kernel) rfl rfl rfl (by decide +kernel)
set_option maxRecDepth 65536 in
theorem w_c4 : (Jvm.Cond.code ({ cls := "java/lang/Object", name := "<init>", desc := "()V" } : Jvm.MethodName) object_method_1_code (1 : Nat) (Option.none : Option Jvm.ClassFile.FieldType)).before args0 about1 = true := code_word (m := ⟨0, 0⟩) (meth := k0m0) (c := k0c0) (by decide +kernel) rfl rfl rfl (by decide +kernel)
set_option maxRecDepth 65536 in
theorem w_c5 : (Jvm.Cond.code ({ cls := "com/example/hybrev/hybrev/EventPageIsMissedPinLaw", name := "str", desc := "(II)Ljava/lang/String;" } : Jvm.MethodName) method_3_code (7 : Nat) (Option.some (Jvm.ClassFile.FieldType.object "java/lang/String"))).before args0 about1 = true := code_word (m := ⟨1, 2⟩) (meth := k1m2) (c := k1c2) (by decide +kernel) rfl rfl rfl (by decide +kernel)
set_option maxRecDepth 65536 in
theorem w_c6 : (Jvm.Cond.code ({ cls := "java/lang/String", name := "<init>", desc := "([C)V" } : Jvm.MethodName) jdk_42_method_3_code (2 : Nat) (Option.none : Option Jvm.ClassFile.FieldType)).before args0 about1 = true := code_word (m := ⟨18, 1⟩) (meth := k18m1) (c := k18c1) (by decide +kernel) rfl rfl rfl (by decide +kernel)
set_option maxRecDepth 65536 in
theorem w_c7 : (Jvm.Cond.code ({ cls := "java/lang/String", name := "<init>", desc := "([CIILjava/lang/Void;)V" } : Jvm.MethodName) jdk_42_method_149_code (6 : Nat) (Option.none : Option Jvm.ClassFile.FieldType)).before args0 about1 = true := code_word (m := ⟨18, 2⟩) (meth := k18m2) (c := k18c2) (by decide +kernel) rfl rfl rfl (by decide +kernel)
set_option maxRecDepth 65536 in
theorem w_c8 : (Jvm.Cond.code ({ cls := "com/example/hybrev/hybrev/EventPage", name := "<init>", desc := "(Ljava/util/List;Ljava/lang/String;)V" } : Jvm.MethodName) prog_5_method_2_code (3 : Nat) (Option.none : Option Jvm.ClassFile.FieldType)).before args0 about1 = true := code_word (m := ⟨19, 1⟩) (meth := k19m1) (c := k19c1) (by decide +kernel) rfl rfl rfl (by decide +kernel)
set_option maxRecDepth 65536 in
theorem w_c9 : (Jvm.Cond.code ({ cls := "java/util/List", name := "copyOf", desc := "(Ljava/util/Collection;)Ljava/util/List;" } : Jvm.MethodName) jdk_40_method_48_code (1 : Nat) (Option.some (Jvm.ClassFile.FieldType.object "java/util/List"))).before args0 about1 = true := code_word (m := ⟨6, 3⟩) (meth := k6m3) (c := k6c3) (by decide +kernel) rfl rfl rfl (by decide +kernel)
set_option maxRecDepth 65536 in
theorem w_c10 : (Jvm.Cond.code ({ cls := "java/util/ImmutableCollections", name := "listCopy", desc := "(Ljava/util/Collection;)Ljava/util/List;" } : Jvm.MethodName) jdk_56_method_3_code (2 : Nat) (Option.some (Jvm.ClassFile.FieldType.object "java/util/List"))).before args0 about1 = true := code_word (m := ⟨20, 1⟩) (meth := k20m1) (c := k20c1) (by decide +kernel) rfl rfl rfl (by decide +kernel)
set_option maxRecDepth 65536 in
theorem w_c11 : (Jvm.Cond.code ({ cls := "java/util/ArrayList", name := "isEmpty", desc := "()Z" } : Jvm.MethodName) jdk_38_method_9_code (1 : Nat) (Option.some Jvm.ClassFile.FieldType.boolean)).before args0 about1 = true := code_word (m := ⟨11, 3⟩) (meth := k11m3) (c := k11c3) (by decide +kernel) rfl rfl rfl (by decide +kernel)
set_option maxRecDepth 65536 in
theorem w_c12 : (Jvm.Cond.code ({ cls := "java/util/List", name := "of", desc := "()Ljava/util/List;" } : Jvm.MethodName) jdk_40_method_36_code (0 : Nat) (Option.some (Jvm.ClassFile.FieldType.object "java/util/List"))).before args0 about1 = true := code_word (m := ⟨6, 1⟩) (meth := k6m1) (c := k6c1) (by decide +kernel) rfl rfl rfl (by decide +kernel)
set_option maxRecDepth 65536 in
theorem w_c13 : (Jvm.Cond.code ({ cls := "java/util/Objects", name := "requireNonNull", desc := "(Ljava/lang/Object;Ljava/lang/String;)Ljava/lang/Object;" } : Jvm.MethodName) jdk_31_method_11_code (2 : Nat) (Option.some (Jvm.ClassFile.FieldType.object "java/lang/Object"))).before args0 about1 = true := code_word (m := ⟨25, 2⟩) (meth := k25m2) (c := k25c2) (by decide +kernel) rfl rfl rfl (by decide +kernel)
set_option maxRecDepth 65536 in
theorem w_c14 : (Jvm.Cond.code ({ cls := "com/example/hybrev/hybrev/EventPage", name := "isMissed", desc := "()Z" } : Jvm.MethodName) prog_5_method_4_code (1 : Nat) (Option.some Jvm.ClassFile.FieldType.boolean)).before args0 about1 = true := code_word (m := ⟨19, 3⟩) (meth := k19m3) (c := k19c3) (by decide +kernel) rfl rfl rfl (by decide +kernel)
set_option maxRecDepth 65536 in
theorem w_c15 : (Jvm.Cond.code ({ cls := "com/example/hybrev/hybrev/EventPage", name := "getNext", desc := "()Ljava/lang/String;" } : Jvm.MethodName) prog_5_method_6_code (1 : Nat) (Option.some (Jvm.ClassFile.FieldType.object "java/lang/String"))).before args0 about1 = true := code_word (m := ⟨19, 5⟩) (meth := k19m5) (c := k19c5) (by decide +kernel) rfl rfl rfl (by decide +kernel)
set_option maxRecDepth 65536 in
theorem w_c16 : (Jvm.Cond.code ({ cls := "com/example/hybrev/hybrev/EventPage", name := "missed", desc := "()Lcom/example/hybrev/hybrev/EventPage;" } : Jvm.MethodName) prog_5_method_3_code (0 : Nat) (Option.some (Jvm.ClassFile.FieldType.object "com/example/hybrev/hybrev/EventPage"))).before args0 about1 = true := code_word (m := ⟨19, 2⟩) (meth := k19m2) (c := k19c2) (by decide +kernel) rfl rfl rfl (by decide +kernel)
set_option maxRecDepth 65536 in
theorem w_c17 : (Jvm.Cond.code ({ cls := "com/example/hybrev/hybrev/EventPage", name := "getEvents", desc := "()Ljava/util/List;" } : Jvm.MethodName) prog_5_method_5_code (1 : Nat) (Option.some (Jvm.ClassFile.FieldType.object "java/util/List"))).before args0 about1 = true := code_word (m := ⟨19, 4⟩) (meth := k19m4) (c := k19c4) (by decide +kernel) rfl rfl rfl (by decide +kernel)
set_option maxRecDepth 65536 in
theorem w_c18 : (Jvm.Cond.code ({ cls := "java/util/ImmutableCollections$ListN", name := "isEmpty", desc := "()Z" } : Jvm.MethodName) jdk_45_method_2_code (1 : Nat) (Option.some Jvm.ClassFile.FieldType.boolean)).before args0 about1 = true := code_word (m := ⟨24, 0⟩) (meth := k24m0) (c := k24c0) (by decide +kernel) rfl rfl rfl (by decide +kernel)
set_option maxRecDepth 65536 in
theorem w_c19 : (Jvm.Cond.code ({ cls := "java/lang/StringUTF16", name := "compress", desc := "([CII)[B" } : Jvm.MethodName) jdk_52_method_16_code (6 : Nat) (Option.some (Jvm.ClassFile.FieldType.array Jvm.ClassFile.FieldType.byte))).before args0 about1 = true := code_word (m := ⟨26, 2⟩) (meth := k26m2) (c := k26c2) (by decide +kernel) rfl rfl rfl (by decide +kernel)
set_option maxRecDepth 65536 in
theorem w_c20 : (Jvm.Cond.code ({ cls := "java/lang/StringUTF16", name := "compress", desc := "([CI[BII)I" } : Jvm.MethodName) jdk_52_method_21_code (7 : Nat) (Option.some Jvm.ClassFile.FieldType.int)).before args0 about1 = true := code_word (m := ⟨26, 3⟩) (meth := k26m3) (c := k26c3) (by decide +kernel) rfl rfl rfl (by decide +kernel)
set_option maxRecDepth 65536 in
theorem w_c21 : (Jvm.Cond.code ({ cls := "java/lang/StringUTF16", name := "coderFromArrayLen", desc := "([BI)B" } : Jvm.MethodName) jdk_52_method_15_code (2 : Nat) (Option.some Jvm.ClassFile.FieldType.byte)).before args0 about1 = true := code_word (m := ⟨26, 1⟩) (meth := k26m1) (c := k26c1) (by decide +kernel) rfl rfl rfl (by decide +kernel)
set_option maxRecDepth 65536 in
theorem w_c22 : (Jvm.Cond.code ({ cls := "com/example/hybrev/hybrev/RevocationEvent", name := "<init>", desc := "(Lcom/example/hybrev/hybrev/RevocationEvent$Kind;Ljava/lang/String;)V" } : Jvm.MethodName) prog_16_method_1_code (3 : Nat) (Option.none : Option Jvm.ClassFile.FieldType)).before args0 about1 = true := code_word (m := ⟨27, 0⟩) (meth := k27m0) (c := k27c0) (by decide +kernel) rfl rfl rfl (by decide +kernel)
set_option maxRecDepth 65536 in
theorem w_c23 : (Jvm.Cond.code ({ cls := "java/util/ArrayList", name := "add", desc := "(Ljava/lang/Object;)Z" } : Jvm.MethodName) jdk_38_method_25_code (2 : Nat) (Option.some Jvm.ClassFile.FieldType.boolean)).before args0 about1 = true := code_word (m := ⟨11, 6⟩) (meth := k11m6) (c := k11c6) (by decide +kernel) rfl rfl rfl (by decide +kernel)
set_option maxRecDepth 65536 in
theorem w_c24 : (Jvm.Cond.code ({ cls := "java/util/ArrayList", name := "add", desc := "(Ljava/lang/Object;[Ljava/lang/Object;I)V" } : Jvm.MethodName) jdk_38_method_24_code (4 : Nat) (Option.none : Option Jvm.ClassFile.FieldType)).before args0 about1 = true := code_word (m := ⟨11, 5⟩) (meth := k11m5) (c := k11c5) (by decide +kernel) rfl rfl rfl (by decide +kernel)
set_option maxRecDepth 65536 in
theorem w_c25 : (Jvm.Cond.code ({ cls := "java/util/ArrayList", name := "grow", desc := "()[Ljava/lang/Object;" } : Jvm.MethodName) jdk_38_method_7_code (1 : Nat) (Option.some (Jvm.ClassFile.FieldType.array (Jvm.ClassFile.FieldType.object "java/lang/Object")))).before args0 about1 = true := code_word (m := ⟨11, 2⟩) (meth := k11m2) (c := k11c2) (by decide +kernel) rfl rfl rfl (by decide +kernel)
set_option maxRecDepth 65536 in
theorem w_c26 : (Jvm.Cond.code ({ cls := "java/util/ArrayList", name := "grow", desc := "(I)[Ljava/lang/Object;" } : Jvm.MethodName) jdk_38_method_6_code (4 : Nat) (Option.some (Jvm.ClassFile.FieldType.array (Jvm.ClassFile.FieldType.object "java/lang/Object")))).before args0 about1 = true := code_word (m := ⟨11, 1⟩) (meth := k11m1) (c := k11c1) (by decide +kernel) rfl rfl rfl (by decide +kernel)
set_option maxRecDepth 65536 in
theorem w_c27 : (Jvm.Cond.code ({ cls := "java/lang/Math", name := "max", desc := "(II)I" } : Jvm.MethodName) jdk_29_method_65_code (2 : Nat) (Option.some Jvm.ClassFile.FieldType.int)).before args0 about1 = true := code_word (m := ⟨28, 1⟩) (meth := k28m1) (c := k28c1) (by decide +kernel) rfl rfl rfl (by decide +kernel)
set_option maxRecDepth 65536 in
theorem w_c28 : (Jvm.Cond.code ({ cls := "java/util/ArrayList", name := "toArray", desc := "()[Ljava/lang/Object;" } : Jvm.MethodName) jdk_38_method_16_code (1 : Nat) (Option.some (Jvm.ClassFile.FieldType.array (Jvm.ClassFile.FieldType.object "java/lang/Object")))).before args0 about1 = true := code_word (m := ⟨11, 4⟩) (meth := k11m4) (c := k11c4) (by decide +kernel) rfl rfl rfl (by decide +kernel)
set_option maxRecDepth 65536 in
theorem w_c29 : (Jvm.Cond.code ({ cls := "java/util/Arrays", name := "copyOf", desc := "([Ljava/lang/Object;I)[Ljava/lang/Object;" } : Jvm.MethodName) jdk_65_method_119_code (2 : Nat) (Option.some (Jvm.ClassFile.FieldType.array (Jvm.ClassFile.FieldType.object "java/lang/Object")))).before args0 about1 = true := code_word (m := ⟨29, 1⟩) (meth := k29m1) (c := k29c1) (by decide +kernel) rfl rfl rfl (by decide +kernel)
set_option maxRecDepth 65536 in
theorem w_c30 : (Jvm.Cond.code ({ cls := "java/util/Arrays", name := "copyOf", desc := "([Ljava/lang/Object;ILjava/lang/Class;)[Ljava/lang/Object;" } : Jvm.MethodName) jdk_65_method_120_code (4 : Nat) (Option.some (Jvm.ClassFile.FieldType.array (Jvm.ClassFile.FieldType.object "java/lang/Object")))).before args0 about1 = true := code_word (m := ⟨29, 2⟩) (meth := k29m2) (c := k29c2) (by decide +kernel) rfl rfl rfl (by decide +kernel)
set_option maxRecDepth 65536 in
theorem w_c31 : (Jvm.Cond.code ({ cls := "java/lang/Math", name := "min", desc := "(II)I" } : Jvm.MethodName) jdk_29_method_69_code (2 : Nat) (Option.some Jvm.ClassFile.FieldType.int)).before args0 about1 = true := code_word (m := ⟨28, 2⟩) (meth := k28m2) (c := k28c2) (by decide +kernel) rfl rfl rfl (by decide +kernel)
set_option maxRecDepth 65536 in
theorem w_c32 : (Jvm.Cond.code ({ cls := "java/util/List", name := "of", desc := "([Ljava/lang/Object;)Ljava/util/List;" } : Jvm.MethodName) jdk_40_method_47_code (2 : Nat) (Option.some (Jvm.ClassFile.FieldType.object "java/util/List"))).before args0 about1 = true := code_word (m := ⟨6, 2⟩) (meth := k6m2) (c := k6c2) (by decide +kernel) rfl rfl rfl (by decide +kernel)
set_option maxRecDepth 65536 in
theorem w_c33 : (Jvm.Cond.code ({ cls := "java/util/ImmutableCollections$List12", name := "<init>", desc := "(Ljava/lang/Object;Ljava/lang/Object;)V" } : Jvm.MethodName) jdk_44_method_2_code (3 : Nat) (Option.none : Option Jvm.ClassFile.FieldType)).before args0 about1 = true := code_word (m := ⟨23, 1⟩) (meth := k23m1) (c := k23c1) (by decide +kernel) rfl rfl rfl (by decide +kernel)
set_option maxRecDepth 65536 in
theorem w_c34 : (Jvm.Cond.code ({ cls := "java/util/ImmutableCollections$AbstractImmutableList", name := "<init>", desc := "()V" } : Jvm.MethodName) jdk_46_method_1_code (1 : Nat) (Option.none : Option Jvm.ClassFile.FieldType)).before args0 about1 = true := code_word (m := ⟨22, 0⟩) (meth := k22m0) (c := k22c0) (by decide +kernel) rfl rfl rfl (by decide +kernel)
set_option maxRecDepth 65536 in
theorem w_c35 : (Jvm.Cond.code ({ cls := "java/util/ImmutableCollections$AbstractImmutableCollection", name := "<init>", desc := "()V" } : Jvm.MethodName) jdk_47_method_1_code (1 : Nat) (Option.none : Option Jvm.ClassFile.FieldType)).before args0 about1 = true := code_word (m := ⟨21, 0⟩) (meth := k21m0) (c := k21c0) (by decide +kernel) rfl rfl rfl (by decide +kernel)
set_option maxRecDepth 65536 in
theorem w_c36 : (Jvm.Cond.code ({ cls := "java/util/Objects", name := "requireNonNull", desc := "(Ljava/lang/Object;)Ljava/lang/Object;" } : Jvm.MethodName) jdk_31_method_10_code (1 : Nat) (Option.some (Jvm.ClassFile.FieldType.object "java/lang/Object"))).before args0 about1 = true := code_word (m := ⟨25, 1⟩) (meth := k25m1) (c := k25c1) (by decide +kernel) rfl rfl rfl (by decide +kernel)
set_option maxRecDepth 65536 in
theorem w_c37 : (Jvm.Cond.code ({ cls := "java/util/ImmutableCollections$List12", name := "<init>", desc := "(Ljava/lang/Object;)V" } : Jvm.MethodName) jdk_44_method_1_code (2 : Nat) (Option.none : Option Jvm.ClassFile.FieldType)).before args0 about1 = true := code_word (m := ⟨23, 0⟩) (meth := k23m0) (c := k23c0) (by decide +kernel) rfl rfl rfl (by decide +kernel)
def codes1 : List Jvm.Cond := [Jvm.Cond.code x code maxLocals ret, Jvm.Cond.code ({ cls := "java/util/ArrayList", name := "<init>", desc := "()V" } : Jvm.MethodName) jdk_38_method_2_code (1 : Nat) (Option.none : Option Jvm.ClassFile.FieldType), Jvm.Cond.code ({ cls := "java/util/AbstractList", name := "<init>", desc := "()V" } : Jvm.MethodName) jdk_39_method_1_code (1 : Nat) (Option.none : Option Jvm.ClassFile.FieldType), Jvm.Cond.code ({ cls := "java/util/AbstractCollection", name := "<init>", desc := "()V" } : Jvm.MethodName) jdk_22_method_1_code (1 : Nat) (Option.none : Option Jvm.ClassFile.FieldType), Jvm.Cond.code ({ cls := "java/lang/Object", name := "<init>", desc := "()V" } : Jvm.MethodName) object_method_1_code (1 : Nat) (Option.none : Option Jvm.ClassFile.FieldType), Jvm.Cond.code ({ cls := "com/example/hybrev/hybrev/EventPageIsMissedPinLaw", name := "str", desc := "(II)Ljava/lang/String;" } : Jvm.MethodName) method_3_code (7 : Nat) (Option.some (Jvm.ClassFile.FieldType.object "java/lang/String")), Jvm.Cond.code ({ cls := "java/lang/String", name := "<init>", desc := "([C)V" } : Jvm.MethodName) jdk_42_method_3_code (2 : Nat) (Option.none : Option Jvm.ClassFile.FieldType), Jvm.Cond.code ({ cls := "java/lang/String", name := "<init>", desc := "([CIILjava/lang/Void;)V" } : Jvm.MethodName) jdk_42_method_149_code (6 : Nat) (Option.none : Option Jvm.ClassFile.FieldType), Jvm.Cond.code ({ cls := "com/example/hybrev/hybrev/EventPage", name := "<init>", desc := "(Ljava/util/List;Ljava/lang/String;)V" } : Jvm.MethodName) prog_5_method_2_code (3 : Nat) (Option.none : Option Jvm.ClassFile.FieldType), Jvm.Cond.code ({ cls := "java/util/List", name := "copyOf", desc := "(Ljava/util/Collection;)Ljava/util/List;" } : Jvm.MethodName) jdk_40_method_48_code (1 : Nat) (Option.some (Jvm.ClassFile.FieldType.object "java/util/List")), Jvm.Cond.code ({ cls := "java/util/ImmutableCollections", name := "listCopy", desc := "(Ljava/util/Collection;)Ljava/util/List;" } : Jvm.MethodName) jdk_56_method_3_code (2 : Nat) (Option.some (Jvm.ClassFile.FieldType.object "java/util/List")), Jvm.Cond.code ({ cls := "java/util/ArrayList", name := "isEmpty", desc := "()Z" } : Jvm.MethodName) jdk_38_method_9_code (1 : Nat) (Option.some Jvm.ClassFile.FieldType.boolean), Jvm.Cond.code ({ cls := "java/util/List", name := "of", desc := "()Ljava/util/List;" } : Jvm.MethodName) jdk_40_method_36_code (0 : Nat) (Option.some (Jvm.ClassFile.FieldType.object "java/util/List")), Jvm.Cond.code ({ cls := "java/util/Objects", name := "requireNonNull", desc := "(Ljava/lang/Object;Ljava/lang/String;)Ljava/lang/Object;" } : Jvm.MethodName) jdk_31_method_11_code (2 : Nat) (Option.some (Jvm.ClassFile.FieldType.object "java/lang/Object")), Jvm.Cond.code ({ cls := "com/example/hybrev/hybrev/EventPage", name := "isMissed", desc := "()Z" } : Jvm.MethodName) prog_5_method_4_code (1 : Nat) (Option.some Jvm.ClassFile.FieldType.boolean), Jvm.Cond.code ({ cls := "com/example/hybrev/hybrev/EventPage", name := "getNext", desc := "()Ljava/lang/String;" } : Jvm.MethodName) prog_5_method_6_code (1 : Nat) (Option.some (Jvm.ClassFile.FieldType.object "java/lang/String")), Jvm.Cond.code ({ cls := "com/example/hybrev/hybrev/EventPage", name := "missed", desc := "()Lcom/example/hybrev/hybrev/EventPage;" } : Jvm.MethodName) prog_5_method_3_code (0 : Nat) (Option.some (Jvm.ClassFile.FieldType.object "com/example/hybrev/hybrev/EventPage")), Jvm.Cond.code ({ cls := "com/example/hybrev/hybrev/EventPage", name := "getEvents", desc := "()Ljava/util/List;" } : Jvm.MethodName) prog_5_method_5_code (1 : Nat) (Option.some (Jvm.ClassFile.FieldType.object "java/util/List")), Jvm.Cond.code ({ cls := "java/util/ImmutableCollections$ListN", name := "isEmpty", desc := "()Z" } : Jvm.MethodName) jdk_45_method_2_code (1 : Nat) (Option.some Jvm.ClassFile.FieldType.boolean), Jvm.Cond.code ({ cls := "java/lang/StringUTF16", name := "compress", desc := "([CII)[B" } : Jvm.MethodName) jdk_52_method_16_code (6 : Nat) (Option.some (Jvm.ClassFile.FieldType.array Jvm.ClassFile.FieldType.byte)), Jvm.Cond.code ({ cls := "java/lang/StringUTF16", name := "compress", desc := "([CI[BII)I" } : Jvm.MethodName) jdk_52_method_21_code (7 : Nat) (Option.some Jvm.ClassFile.FieldType.int), Jvm.Cond.code ({ cls := "java/lang/StringUTF16", name := "coderFromArrayLen", desc := "([BI)B" } : Jvm.MethodName) jdk_52_method_15_code (2 : Nat) (Option.some Jvm.ClassFile.FieldType.byte), Jvm.Cond.code ({ cls := "com/example/hybrev/hybrev/RevocationEvent", name := "<init>", desc := "(Lcom/example/hybrev/hybrev/RevocationEvent$Kind;Ljava/lang/String;)V" } : Jvm.MethodName) prog_16_method_1_code (3 : Nat) (Option.none : Option Jvm.ClassFile.FieldType), Jvm.Cond.code ({ cls := "java/util/ArrayList", name := "add", desc := "(Ljava/lang/Object;)Z" } : Jvm.MethodName) jdk_38_method_25_code (2 : Nat) (Option.some Jvm.ClassFile.FieldType.boolean), Jvm.Cond.code ({ cls := "java/util/ArrayList", name := "add", desc := "(Ljava/lang/Object;[Ljava/lang/Object;I)V" } : Jvm.MethodName) jdk_38_method_24_code (4 : Nat) (Option.none : Option Jvm.ClassFile.FieldType), Jvm.Cond.code ({ cls := "java/util/ArrayList", name := "grow", desc := "()[Ljava/lang/Object;" } : Jvm.MethodName) jdk_38_method_7_code (1 : Nat) (Option.some (Jvm.ClassFile.FieldType.array (Jvm.ClassFile.FieldType.object "java/lang/Object"))), Jvm.Cond.code ({ cls := "java/util/ArrayList", name := "grow", desc := "(I)[Ljava/lang/Object;" } : Jvm.MethodName) jdk_38_method_6_code (4 : Nat) (Option.some (Jvm.ClassFile.FieldType.array (Jvm.ClassFile.FieldType.object "java/lang/Object"))), Jvm.Cond.code ({ cls := "java/lang/Math", name := "max", desc := "(II)I" } : Jvm.MethodName) jdk_29_method_65_code (2 : Nat) (Option.some Jvm.ClassFile.FieldType.int), Jvm.Cond.code ({ cls := "java/util/ArrayList", name := "toArray", desc := "()[Ljava/lang/Object;" } : Jvm.MethodName) jdk_38_method_16_code (1 : Nat) (Option.some (Jvm.ClassFile.FieldType.array (Jvm.ClassFile.FieldType.object "java/lang/Object"))), Jvm.Cond.code ({ cls := "java/util/Arrays", name := "copyOf", desc := "([Ljava/lang/Object;I)[Ljava/lang/Object;" } : Jvm.MethodName) jdk_65_method_119_code (2 : Nat) (Option.some (Jvm.ClassFile.FieldType.array (Jvm.ClassFile.FieldType.object "java/lang/Object"))), Jvm.Cond.code ({ cls := "java/util/Arrays", name := "copyOf", desc := "([Ljava/lang/Object;ILjava/lang/Class;)[Ljava/lang/Object;" } : Jvm.MethodName) jdk_65_method_120_code (4 : Nat) (Option.some (Jvm.ClassFile.FieldType.array (Jvm.ClassFile.FieldType.object "java/lang/Object"))), Jvm.Cond.code ({ cls := "java/lang/Math", name := "min", desc := "(II)I" } : Jvm.MethodName) jdk_29_method_69_code (2 : Nat) (Option.some Jvm.ClassFile.FieldType.int), Jvm.Cond.code ({ cls := "java/util/List", name := "of", desc := "([Ljava/lang/Object;)Ljava/util/List;" } : Jvm.MethodName) jdk_40_method_47_code (2 : Nat) (Option.some (Jvm.ClassFile.FieldType.object "java/util/List")), Jvm.Cond.code ({ cls := "java/util/ImmutableCollections$List12", name := "<init>", desc := "(Ljava/lang/Object;Ljava/lang/Object;)V" } : Jvm.MethodName) jdk_44_method_2_code (3 : Nat) (Option.none : Option Jvm.ClassFile.FieldType), Jvm.Cond.code ({ cls := "java/util/ImmutableCollections$AbstractImmutableList", name := "<init>", desc := "()V" } : Jvm.MethodName) jdk_46_method_1_code (1 : Nat) (Option.none : Option Jvm.ClassFile.FieldType), Jvm.Cond.code ({ cls := "java/util/ImmutableCollections$AbstractImmutableCollection", name := "<init>", desc := "()V" } : Jvm.MethodName) jdk_47_method_1_code (1 : Nat) (Option.none : Option Jvm.ClassFile.FieldType), Jvm.Cond.code ({ cls := "java/util/Objects", name := "requireNonNull", desc := "(Ljava/lang/Object;)Ljava/lang/Object;" } : Jvm.MethodName) jdk_31_method_10_code (1 : Nat) (Option.some (Jvm.ClassFile.FieldType.object "java/lang/Object")), Jvm.Cond.code ({ cls := "java/util/ImmutableCollections$List12", name := "<init>", desc := "(Ljava/lang/Object;)V" } : Jvm.MethodName) jdk_44_method_1_code (2 : Nat) (Option.none : Option Jvm.ClassFile.FieldType)]
set_option maxRecDepth 65536 in
theorem codes_eq : words1.filter isCode = codes1 := rfl
theorem w_codes : ∀ c ∈ words1.filter isCode, c.before args0 about1 = true := by
  rw [codes_eq]
  intro c hc
  simp only [codes1, List.mem_cons, List.not_mem_nil, or_false] at hc
  rcases hc with rfl | rfl | rfl | rfl | rfl | rfl | rfl | rfl | rfl | rfl | rfl | rfl | rfl | rfl | rfl | rfl | rfl | rfl | rfl | rfl | rfl | rfl | rfl | rfl | rfl | rfl | rfl | rfl | rfl | rfl | rfl | rfl | rfl | rfl | rfl | rfl | rfl | rfl
  · exact w_c0
  · exact w_c1
  · exact w_c2
  · exact w_c3
  · exact w_c4
  · exact w_c5
  · exact w_c6
  · exact w_c7
  · exact w_c8
  · exact w_c9
  · exact w_c10
  · exact w_c11
  · exact w_c12
  · exact w_c13
  · exact w_c14
  · exact w_c15
  · exact w_c16
  · exact w_c17
  · exact w_c18
  · exact w_c19
  · exact w_c20
  · exact w_c21
  · exact w_c22
  · exact w_c23
  · exact w_c24
  · exact w_c25
  · exact w_c26
  · exact w_c27
  · exact w_c28
  · exact w_c29
  · exact w_c30
  · exact w_c31
  · exact w_c32
  · exact w_c33
  · exact w_c34
  · exact w_c35
  · exact w_c36
  · exact w_c37
set_option maxRecDepth 65536 in
theorem w_t1 : (words1.take 24).all (fun c => isCode c || c.before args0 about1) = true := by decide +kernel
set_option maxRecDepth 65536 in
theorem w_t2 : ((words1.drop 24).take 24).all (fun c => isCode c || c.before args0 about1) = true := by decide +kernel
set_option maxRecDepth 65536 in
theorem w_t3 : (((words1.drop 24).drop 24).take 24).all (fun c => isCode c || c.before args0 about1) = true := by decide +kernel
set_option maxRecDepth 65536 in
theorem w_t4 : ((((words1.drop 24).drop 24).drop 24).take 24).all (fun c => isCode c || c.before args0 about1) = true := by decide +kernel
set_option maxRecDepth 65536 in
theorem w_t5 : (((((words1.drop 24).drop 24).drop 24).drop 24).take 24).all (fun c => isCode c || c.before args0 about1) = true := by decide +kernel
set_option maxRecDepth 65536 in
theorem w_t6 : ((((((words1.drop 24).drop 24).drop 24).drop 24).drop 24).take 24).all (fun c => isCode c || c.before args0 about1) = true := by decide +kernel
set_option maxRecDepth 65536 in
theorem w_t7 : (((((((words1.drop 24).drop 24).drop 24).drop 24).drop 24).drop 24).take 24).all (fun c => isCode c || c.before args0 about1) = true := by decide +kernel
set_option maxRecDepth 65536 in
theorem w_t8 : ((((((((words1.drop 24).drop 24).drop 24).drop 24).drop 24).drop 24).drop 24).take 24).all (fun c => isCode c || c.before args0 about1) = true := by decide +kernel
set_option maxRecDepth 65536 in
theorem w_t9 : (((((((((words1.drop 24).drop 24).drop 24).drop 24).drop 24).drop 24).drop 24).drop 24).take 24).all (fun c => isCode c || c.before args0 about1) = true := by decide +kernel
set_option maxRecDepth 65536 in
theorem w_t10 : ((((((((((words1.drop 24).drop 24).drop 24).drop 24).drop 24).drop 24).drop 24).drop 24).drop 24).take 24).all (fun c => isCode c || c.before args0 about1) = true := by decide +kernel
set_option maxRecDepth 65536 in
theorem w_t11 : ((((((((((words1.drop 24).drop 24).drop 24).drop 24).drop 24).drop 24).drop 24).drop 24).drop 24).drop 24).all (fun c => isCode c || c.before args0 about1) = true := by decide +kernel
theorem w_tables : (allAtoms (Jvm.Cond.code x code maxLocals ret :: tables_1)).before args0 about1 = true := by
  rw [allAtoms_all]
  show words1.all (fun c => c.before args0 about1) = true
  refine all_split ?_ w_codes
  rw [← List.take_append_drop 24 words1, List.all_append, w_t1, ← List.take_append_drop 24 (words1.drop 24), List.all_append, w_t2, ← List.take_append_drop 24 ((words1.drop 24).drop 24), List.all_append, w_t3, ← List.take_append_drop 24 (((words1.drop 24).drop 24).drop 24), List.all_append, w_t4, ← List.take_append_drop 24 ((((words1.drop 24).drop 24).drop 24).drop 24), List.all_append, w_t5, ← List.take_append_drop 24 (((((words1.drop 24).drop 24).drop 24).drop 24).drop 24), List.all_append, w_t6, ← List.take_append_drop 24 ((((((words1.drop 24).drop 24).drop 24).drop 24).drop 24).drop 24), List.all_append, w_t7, ← List.take_append_drop 24 (((((((words1.drop 24).drop 24).drop 24).drop 24).drop 24).drop 24).drop 24), List.all_append, w_t8, ← List.take_append_drop 24 ((((((((words1.drop 24).drop 24).drop 24).drop 24).drop 24).drop 24).drop 24).drop 24), List.all_append, w_t9, ← List.take_append_drop 24 (((((((((words1.drop 24).drop 24).drop 24).drop 24).drop 24).drop 24).drop 24).drop 24).drop 24), List.all_append, w_t10, w_t11]
  rfl
set_option maxRecDepth 65536 in
theorem w_rest : rest_1_c.before args0 about1 = true := by decide +kernel
set_option maxRecDepth 65536 in
theorem w_case : (Jvm.Cond.and given_1 narrow_1).before args0 about1 = true := by decide +kernel
set_option maxRecDepth 65536 in
theorem w_consts : constsHeld consts_1 about1 := Jvm.Lit.constsHeldB_iff.mp (by decide +kernel)
theorem w_applies : (headSpec (Jvm.Cond.code x code maxLocals ret :: tables_1) room_1).applies x e0.platform about1 = true :=
  (Spec.applies_iff w_frames).mpr ⟨w_running, w_runnable, w_alone, w_named, w_hears, w_ripe, w_room, w_tables⟩
theorem atStart : AtStart classFile x code maxLocals ret World_1 tables_1 room_1 Calls_1 rest_1 Pre_1 launch0 p0 e0 about1 theMethod args0 below0 :=
  ⟨lists_1, trivial, launch0.admits_env _ _ _, launch0.least_env, fairChoices_fair.cas, fairChoices_fair.clock, w_frames, w_args, w_heap, w_applies, ⟨⟨40, k40, 14, by decide +kernel, rfl, rfl, _, rfl, rfl⟩, w_consts, trivial⟩, w_rest, w_case⟩
end start1
theorem witness_1 : WitnessClaimed_1 := ⟨start1.p0, start1.e0, start1.about1, start1.theMethod, start1.args0, start1.below0, start1.atStart⟩
end Jvm.Pilot.@@N@@
