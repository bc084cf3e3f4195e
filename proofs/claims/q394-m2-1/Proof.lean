import JvmDerived
import JvmDerived.Pilot.@@N@@Statement
import JvmDerived.Pilot.@@N@@Code
set_option linter.unusedVariables false
set_option linter.unusedSimpArgs false
/- laws to paste: Road.backV (cut by pick.py; bodies as the Statement names them) -/
namespace Jvm.Pilot.@@N@@
namespace StrChars
open Jvm Sem ClassFile Op Lib Jvm.Stand Jvm.Free.XT Jvm.Free.ALB Jvm.Free.JM Jvm.Free
open Jvm.Lib.Cold (StaticIs)
/-- a char array whose places are chars -/
def Ch (a : Addr) (A : Cell) (U : State) : Prop := Arr .char a A U ∧ Typed .char A
theorem Ch.mv {a : Addr} {A : Cell} {U U' : State} (h : Ch a A U) (hal : U.vm.Alike U'.vm) (hh : U'.heap = U.heap) : Ch a A U' := ⟨h.1.mv hal hh, h.2⟩
theorem Ch.keep {a : Addr} {A : Cell} {U U' : State} (h : Ch a A U) (hal : U.vm.Alike U'.vm) (hk : U'.heap[a]? = some A) : Ch a A U' := ⟨h.1.keep hal hk, h.2⟩
/-- what place i of a char[]'s cell holds -/
def cv (A : Cell) (i : Nat) : Int32 := match A.slots[i]? with | some (.int x) => x | _ => 0
theorem Ch.get {a : Addr} {A : Cell} {U : State} (h : Ch a A U) {i : Nat} (hi : i < A.slots.size) : A.slots[i]? = some (.int (cv A i)) := by
  have e := Array.getElem?_eq_getElem hi
  have f := h.2 i _ e
  unfold cv; rw [e]
  generalize A.slots[i] = v at f
  cases v <;> simp [fits] at f ⊢
/-- the byte that i2b leaves of a char -/
def lo8 (x : Int32) : Int32 := x.toInt8.toInt32
theorem fits_lo8 (y : Int32) : fits .byte (.int (lo8 y)) = true := by
  have h1 := y.toInt8.le_toInt
  have h2 := y.toInt8.toInt_lt
  simp only [lo8, fits, Bool.and_eq_true, decide_eq_true_eq, Int32.le_iff_toInt_le, Int8.toInt_toInt32, show (-128 : Int32).toInt = -128 from by decide, show (127 : Int32).toInt = 127 from by decide]
  omega
/-- A' is A but that each place j of lo .. hi - 1 holds f j -/
def Laid (A A' : Cell) (lo hi : Nat) (f : Nat → Value) : Prop := A'.cls = A.cls ∧ A'.vm = A.vm ∧ A'.slots.size = A.slots.size ∧ ∀ i, A'.slots[i]? = if lo ≤ i ∧ i < hi then some (f i) else A.slots[i]?
theorem Laid.zero (A : Cell) (lo : Nat) (f : Nat → Value) : Laid A A lo (lo + 0) f := ⟨rfl, rfl, rfl, fun i => by rw [if_neg (by omega)]⟩
theorem Laid.step {A Ak : Cell} {lo k : Nat} {f : Nat → Value} {v : Value} (h : Laid A Ak lo k f) (hlo : lo ≤ k) (hk : k < Ak.slots.size) (hv : v = f k) : Laid A (Ak.setSlot k v) lo (k + 1) f := by
  refine ⟨h.1, h.2.1, by simpa [Cell.setSlot] using h.2.2.1, fun i => ?_⟩
  by_cases e : k = i
  · subst e; rw [Cell.slots_setSlot_self v hk, if_pos (by omega), hv]
  · rw [Cell.slots_setSlot_ne v e, h.2.2.2 i]
    by_cases q : lo ≤ i ∧ i < k
    · rw [if_pos q, if_pos (by omega)]
    · rw [if_neg q, if_neg (by omega)]
def U16 : String := "java/lang/StringUTF16"
namespace Cmp5
def yN : MethodName := ⟨"java/lang/StringUTF16", "compress", "([CI[BII)I"⟩
abbrev yB : ByteArray := jdk_52_method_21_code
theorem d0 : decode yB 0 = .ok (.iconst 0, 1) := by decide +kernel
theorem d1 : decode yB 1 = .ok (.istore 5, 2) := by decide +kernel
theorem d3 : decode yB 3 = .ok (.iload 5, 2) := by decide +kernel
theorem d5 : decode yB 5 = .ok (.iload 4, 2) := by decide +kernel
theorem d7 : decode yB 7 = .ok (.if_icmp (.ge) 37, 3) := by decide +kernel
theorem d10 : decode yB 10 = .ok (.aload_n 0, 1) := by decide +kernel
theorem d11 : decode yB 11 = .ok (.iload_n 1, 1) := by decide +kernel
theorem d12 : decode yB 12 = .ok (.caload, 1) := by decide +kernel
theorem d13 : decode yB 13 = .ok (.istore 6, 2) := by decide +kernel
theorem d15 : decode yB 15 = .ok (.iload 6, 2) := by decide +kernel
theorem d17 : decode yB 17 = .ok (.sipush 255, 3) := by decide +kernel
theorem d20 : decode yB 20 = .ok (.if_icmp (.le) 6, 3) := by decide +kernel
theorem d26 : decode yB 26 = .ok (.aload_n 2, 1) := by decide +kernel
theorem d27 : decode yB 27 = .ok (.iload_n 3, 1) := by decide +kernel
theorem d28 : decode yB 28 = .ok (.iload 6, 2) := by decide +kernel
theorem d30 : decode yB 30 = .ok (.i2b, 1) := by decide +kernel
theorem d31 : decode yB 31 = .ok (.bastore, 1) := by decide +kernel
theorem d32 : decode yB 32 = .ok (.iinc 1 1, 3) := by decide +kernel
theorem d35 : decode yB 35 = .ok (.iinc 3 1, 3) := by decide +kernel
theorem d38 : decode yB 38 = .ok (.iinc 5 1, 3) := by decide +kernel
theorem d41 : decode yB 41 = .ok (.goto (-38), 3) := by decide +kernel
theorem d44 : decode yB 44 = .ok (.iload 4, 2) := by decide +kernel
theorem d46 : decode yB 46 = .ok (.ireturn, 1) := by decide +kernel
def site : List Cond := []
def tab : Cond := tabOf yN yB 7 (some .int) site
def P (b : Addr) (A : Cell) (d : Addr) (B : Cell) (o q len : Nat) (args : Array Value) (s : State) : Prop := args = #[.ref b, .int (Int32.ofNat o), .ref d, .int (Int32.ofNat q), .int (Int32.ofNat len)] ∧ Ch b A s ∧ Arr .byte d B s ∧ b ≠ d ∧ o + len ≤ A.slots.size ∧ q + len ≤ B.slots.size ∧ ∀ i, i < len → ¬ 255 < cv A (o + i)
def E (b : Addr) (A : Cell) (d : Addr) (B : Cell) (o q len : Nat) (r : Option Value) (s u : State) : Prop := r = some (.int (Int32.ofNat len)) ∧ ∃ B', Put d B' s u ∧ Laid B B' q (q + len) (fun j => Value.int (lo8 (cv A (o + (j - q)))))
/-- no char of the range above 255: len; the places written hold each char's low byte -/
theorem law (l : Launch) (b : Addr) (A : Cell) (d : Addr) (B : Cell) (o q len : Nat) : Law l yN 5 5 0 0 yB 7 (some .int) site (P b A d B o q len) (E b A d B o q len) (copyLocs d q len) 0 0 := by
  refine Law.of_walk (plainFor_of_name (by decide +kernel)) (by decide +kernel) (by decide +kernel) (by decide) (fun _ _ h => by rw [h.1]; rfl) (fun _ U U' hal hh h => ⟨h.1, h.2.1.mv hal hh, h.2.2.1.mv hal hh, h.2.2.2⟩) (fun r U U' V V' h1 hal h2 h => ⟨h.1, h.2.elim fun B' q => ⟨B', q.1.mv h1 h2, q.2⟩⟩) ?_
  intro p e s m args below meth c s₁ X0 hexec hbytes hml hret hlk hnm hown hh0 W hP
  obtain ⟨rfl, hA, hB, hne, l1, l2, hp⟩ := hP
  have c1 : Steps p.tables e below (s₁.setTop (entryFrame m #[.ref b, .int (Int32.ofNat o), .ref d, .int (Int32.ofNat q), .int (Int32.ofNat len)] 7)) (s₁.setTop (mkF m 0 #[.val (.ref b), .val (.int (Int32.ofNat o)), .val (.ref d), .val (.int (Int32.ofNat q)), .val (.int (Int32.ofNat len)), .unset, .unset] [])) := entry rfl
  have hA0 := hA.1.mv X0.warmed.alike hh0
  have hB0 := hB.mv X0.warmed.alike hh0
  have a31 := hA.1.2.2.2
  have c2 : Steps p.tables e below (s₁.setTop (entryFrame m #[.ref b, .int (Int32.ofNat o), .ref d, .int (Int32.ofNat q), .int (Int32.ofNat len)] 7)) (s₁.setTop (mkF m 3 #[.val (.ref b), .val (.int (Int32.ofNat o)), .val (.ref d), .val (.int (Int32.ofNat q)), .val (.int (Int32.ofNat len)), .val (.int 0), .unset] [])) := c1.trans (by
    refine iconstV X0.here hexec rfl 0 (hb hbytes d0) (by decide) ?_
    refine XS.istore X0.here hexec rfl (hb hbytes d1) rfl rfl ?_
    exact Steps.refl _)
  have loop : ∀ (r i : Nat), i + r = len → ∀ (z : Slot), (z = .unset ∨ ∃ w, z = .val w ∧ w.category = 1) → ∀ (Tl : State) (Bk : Cell), Stand p l e { frames := 0, locals := 0, cells := 0, slots := 0 } s m #[.ref b, .int (Int32.ofNat o), .ref d, .int (Int32.ofNat q), .int (Int32.ofNat len)] below meth c Tl ([] ++ copyLocs d q i) 0 0 → Put d Bk s₁ Tl → Laid B Bk q (q + i) (fun j => Value.int (lo8 (cv A (o + (j - q))))) →
      Steps p.tables e below (s₁.setTop (entryFrame m #[.ref b, .int (Int32.ofNat o), .ref d, .int (Int32.ofNat q), .int (Int32.ofNat len)] 7)) (Tl.setTop (mkF m 3 #[.val (.ref b), .val (.int (Int32.ofNat (o + i))), .val (.ref d), .val (.int (Int32.ofNat (q + i))), .val (.int (Int32.ofNat len)), .val (.int (Int32.ofNat i)), z] [])) → ∃ (T' : State) (B' : Cell) (z' : Slot), Stand p l e { frames := 0, locals := 0, cells := 0, slots := 0 } s m #[.ref b, .int (Int32.ofNat o), .ref d, .int (Int32.ofNat q), .int (Int32.ofNat len)] below meth c T' ([] ++ copyLocs d q len) 0 0 ∧ Put d B' s₁ T' ∧ Laid B B' q (q + len) (fun j => Value.int (lo8 (cv A (o + (j - q))))) ∧
      Steps p.tables e below (s₁.setTop (entryFrame m #[.ref b, .int (Int32.ofNat o), .ref d, .int (Int32.ofNat q), .int (Int32.ofNat len)] 7)) (T'.setTop (mkF m 3 #[.val (.ref b), .val (.int (Int32.ofNat (o + len))), .val (.ref d), .val (.int (Int32.ofNat (q + len))), .val (.int (Int32.ofNat len)), .val (.int (Int32.ofNat len)), z'] [])) := by
    intro r
    induction r with
    | zero =>
      intro i hi z hz Tl Bk Xl pl fl cl
      have hil : i = len := by omega
      rw [hil] at Xl fl cl
      exact ⟨Tl, Bk, z, Xl, pl, fl, cl⟩
    | succ r ih =>
      intro i hi z hz Tl Bk Xl pl fl cl
      have all := X0.warmed.alike.symm.trans Xl.warmed.alike
      have hAl := hA0.keep all (pl.other hne hA0.1)
      have hBk := hB0.like all pl.1 fl.1 fl.2.1 fl.2.2.1
      have hlt : q + i < Bk.slots.size := by rw [fl.2.2.1]; omega
      have c3 : Steps p.tables e below (s₁.setTop (entryFrame m #[.ref b, .int (Int32.ofNat o), .ref d, .int (Int32.ofNat q), .int (Int32.ofNat len)] 7)) (Tl.setTop (mkF m 12 #[.val (.ref b), .val (.int (Int32.ofNat (o + i))), .val (.ref d), .val (.int (Int32.ofNat (q + i))), .val (.int (Int32.ofNat len)), .val (.int (Int32.ofNat i)), z] [.int (Int32.ofNat (o + i)), .ref b])) := cl.trans (by
        refine XS.iload Xl.here hexec rfl (hb hbytes d3) rfl ?_
        refine XS.iload Xl.here hexec rfl (hb hbytes d5) rfl ?_
        refine XS.icmpNo Xl.here hexec rfl (hb hbytes d7) rfl (ii_ge_f (lt32 (by omega) (by omega))) ?_
        refine XS.aloadN Xl.here hexec rfl (hb hbytes d10) rfl rfl ?_
        refine XS.iloadN Xl.here hexec rfl (hb hbytes d11) rfl ?_
        exact Steps.refl _)
      have c4 : Steps p.tables e below (s₁.setTop (entryFrame m #[.ref b, .int (Int32.ofNat o), .ref d, .int (Int32.ofNat q), .int (Int32.ofNat len)] 7)) (Tl.setTop (mkF m 13 #[.val (.ref b), .val (.int (Int32.ofNat (o + i))), .val (.ref d), .val (.int (Int32.ofNat (q + i))), .val (.int (Int32.ofNat len)), .val (.int (Int32.ofNat i)), z] [.int (cv A (o + i))])) := c3.trans (by
        refine Xl.aget hexec hAl rfl (hA.get (i := o + i) (by omega)) rfl rfl (hb hbytes d12) ?_
        exact Steps.refl _)
      have c5 : Steps p.tables e below (s₁.setTop (entryFrame m #[.ref b, .int (Int32.ofNat o), .ref d, .int (Int32.ofNat q), .int (Int32.ofNat len)] 7)) (Tl.setTop (mkF m 15 #[.val (.ref b), .val (.int (Int32.ofNat (o + i))), .val (.ref d), .val (.int (Int32.ofNat (q + i))), .val (.int (Int32.ofNat len)), .val (.int (Int32.ofNat i)), .val (.int (cv A (o + i)))] [])) := c4.trans (by
        refine XS.istoreS Xl.here hexec rfl (hb hbytes d13) rfl rfl hz ?_
        exact Steps.refl _)
      have c6 : Steps p.tables e below (s₁.setTop (entryFrame m #[.ref b, .int (Int32.ofNat o), .ref d, .int (Int32.ofNat q), .int (Int32.ofNat len)] 7)) (Tl.setTop (mkF m 31 #[.val (.ref b), .val (.int (Int32.ofNat (o + i))), .val (.ref d), .val (.int (Int32.ofNat (q + i))), .val (.int (Int32.ofNat len)), .val (.int (Int32.ofNat i)), .val (.int (cv A (o + i)))] [.int (lo8 (cv A (o + i))), .int (Int32.ofNat (q + i)), .ref d])) := c5.trans (by
        refine XS.iload Xl.here hexec rfl (hb hbytes d15) rfl ?_
        refine sipushV Xl.here hexec rfl 255 (hb hbytes d17) (by decide) ?_
        refine XS.icmpYes Xl.here hexec rfl (pc0 := 20) rfl (hb hbytes d20) rfl (ii_le_t (hp i (by omega))) (by decide) rfl ?_
        refine XS.aloadN Xl.here hexec rfl (hb hbytes d26) rfl rfl ?_
        refine XS.iloadN Xl.here hexec rfl (hb hbytes d27) rfl ?_
        refine XS.iload Xl.here hexec rfl (hb hbytes d28) rfl ?_
        refine i2b Xl.here hexec rfl (hb hbytes d30) rfl ?_
        exact Steps.refl _)
      obtain ⟨T7, X7, p7, st7⟩ := Xl.aput hexec hBk rfl hlt rfl (fits_lo8 (cv A (o + i))) (g := (mkF m 31 #[.val (.ref b), .val (.int (Int32.ofNat (o + i))), .val (.ref d), .val (.int (Int32.ofNat (q + i))), .val (.int (Int32.ofNat len)), .val (.int (Int32.ofNat i)), .val (.int (cv A (o + i)))] [.int (lo8 (cv A (o + i))), .int (Int32.ofNat (q + i)), .ref d])) rfl (rest := []) rfl (hb hbytes d31)
      have c8 : Steps p.tables e below (s₁.setTop (entryFrame m #[.ref b, .int (Int32.ofNat o), .ref d, .int (Int32.ofNat q), .int (Int32.ofNat len)] 7)) (T7.setTop (mkF m 32 #[.val (.ref b), .val (.int (Int32.ofNat (o + i))), .val (.ref d), .val (.int (Int32.ofNat (q + i))), .val (.int (Int32.ofNat len)), .val (.int (Int32.ofNat i)), .val (.int (cv A (o + i)))] [])) := c6.trans (st7 _ (Steps.refl _))
      have c9 : Steps p.tables e below (s₁.setTop (entryFrame m #[.ref b, .int (Int32.ofNat o), .ref d, .int (Int32.ofNat q), .int (Int32.ofNat len)] 7)) (T7.setTop (mkF m 3 #[.val (.ref b), .val (.int (Int32.ofNat (o + i) + 1)), .val (.ref d), .val (.int (Int32.ofNat (q + i) + 1)), .val (.int (Int32.ofNat len)), .val (.int (Int32.ofNat i + 1)), .val (.int (cv A (o + i)))] [])) := c8.trans (by
        refine iincV X7.here hexec rfl 1 (hb hbytes d32) (by decide) rfl rfl ?_
        refine iincV X7.here hexec rfl 1 (hb hbytes d35) (by decide) rfl rfl ?_
        refine iincV X7.here hexec rfl 1 (hb hbytes d38) (by decide) rfl rfl ?_
        refine XS.goto X7.here hexec rfl (pc0 := 41) rfl (hb hbytes d41) (by decide) rfl ?_
        exact Steps.refl _)
      have c10 : Steps p.tables e below (s₁.setTop (entryFrame m #[.ref b, .int (Int32.ofNat o), .ref d, .int (Int32.ofNat q), .int (Int32.ofNat len)] 7)) (T7.setTop (mkF m 3 #[.val (.ref b), .val (.int (Int32.ofNat (o + (i + 1)))), .val (.ref d), .val (.int (Int32.ofNat (q + (i + 1)))), .val (.int (Int32.ofNat len)), .val (.int (Int32.ofNat (i + 1))), .val (.int (cv A (o + i)))] [])) := by
        have := c9
        rw [succ32, succ32, succ32] at this
        exact this
      exact ih (i + 1) (by omega) _ (Or.inr ⟨_, rfl, rfl⟩) T7 _ (by rw [copyLocs_step, ← List.append_assoc]; exact X7) (pl.trans p7) (fl.step (by omega) hlt (by simp)) c10
  obtain ⟨T9, B9, z9, X9, p9, f9, g9⟩ := loop len 0 (by omega) .unset (Or.inl rfl) s₁ B (by simpa [copyLocs] using X0) ⟨hB0.1, fun _ _ => rfl, rfl⟩ (Laid.zero _ _ _) c2
  have c11 : Steps p.tables e below (s₁.setTop (entryFrame m #[.ref b, .int (Int32.ofNat o), .ref d, .int (Int32.ofNat q), .int (Int32.ofNat len)] 7)) (T9.setTop (mkF m 46 #[.val (.ref b), .val (.int (Int32.ofNat (o + len))), .val (.ref d), .val (.int (Int32.ofNat (q + len))), .val (.int (Int32.ofNat len)), .val (.int (Int32.ofNat len)), z9] [.int (Int32.ofNat len)])) := g9.trans (by
    refine XS.iload X9.here hexec rfl (hb hbytes d3) rfl ?_
    refine XS.iload X9.here hexec rfl (hb hbytes d5) rfl ?_
    refine XS.icmpYes X9.here hexec rfl (pc0 := 7) rfl (hb hbytes d7) rfl (ii_ge_t (nlt32 (by omega) (Nat.le_refl _))) (by decide) rfl ?_
    refine XS.iload X9.here hexec rfl (hb hbytes d44) rfl ?_
    exact Steps.refl _)
  exact ⟨T9, some (.int (Int32.ofNat len)), _, _, _, X9, by simp, rfl, rfl, (fun h => by cases h), ⟨rfl, B9, p9.from hh0, f9⟩, fun fs hl => c11.trans (X9.ireturnOut hexec hret rfl (Or.inl rfl) (hb hbytes d46) hl)⟩
end Cmp5
namespace Cmp3
def yN : MethodName := ⟨"java/lang/StringUTF16", "compress", "([CII)[B"⟩
abbrev yB : ByteArray := jdk_52_method_16_code
theorem d0 : decode yB 0 = .ok (.iload_n 2, 1) := by decide +kernel
theorem d1 : decode yB 1 = .ok (.newarray .byte, 2) := by decide +kernel
theorem d3 : decode yB 3 = .ok (.astore_n 3, 1) := by decide +kernel
theorem d4 : decode yB 4 = .ok (.aload_n 0, 1) := by decide +kernel
theorem d5 : decode yB 5 = .ok (.iload_n 1, 1) := by decide +kernel
theorem d6 : decode yB 6 = .ok (.aload_n 3, 1) := by decide +kernel
theorem d7 : decode yB 7 = .ok (.iconst 0, 1) := by decide +kernel
theorem d8 : decode yB 8 = .ok (.iload_n 2, 1) := by decide +kernel
theorem d9 : decode yB 9 = .ok (.invokestatic 115, 3) := by decide +kernel
theorem d12 : decode yB 12 = .ok (.istore 4, 2) := by decide +kernel
theorem d14 : decode yB 14 = .ok (.iload 4, 2) := by decide +kernel
theorem d16 : decode yB 16 = .ok (.iload_n 2, 1) := by decide +kernel
theorem d17 : decode yB 17 = .ok (.if_icmp (.eq) 40, 3) := by decide +kernel
theorem d57 : decode yB 57 = .ok (.aload_n 3, 1) := by decide +kernel
theorem d58 : decode yB 58 = .ok (.areturn, 1) := by decide +kernel
def site : List Cond := [.arrayClass .byte, Cmp5.tab] ++ staticW U16 115 Cmp5.yN
def tab : Cond := tabOf yN yB 6 (some (.array .byte)) site
def P (b : Addr) (A : Cell) (o len : Nat) (args : Array Value) (s : State) : Prop := args = #[.ref b, .int (Int32.ofNat o), .int (Int32.ofNat len)] ∧ Ch b A s ∧ o + len ≤ A.slots.size ∧ len ≤ 536870912 ∧ ∀ i, i < len → ¬ 255 < cv A (o + i)
def E (b : Addr) (A : Cell) (o len : Nat) (r : Option Value) (s u : State) : Prop := NewArr .byte "[B" len (fun j => .int (lo8 (cv A (o + j)))) r s u ∧ u.heap.size = s.heap.size + 1
/-- no char of the range above 255: a new byte[] of their low bytes -/
theorem law (l : Launch) (b : Addr) (A : Cell) (o len : Nat) : Law l yN 3 3 1 18 yB 6 (some (.array .byte)) site (P b A o len) (E b A o len) [] 1 len := by
  refine Law.of_walk (plainFor_of_name (by decide +kernel)) (by decide +kernel) (by decide +kernel) (by decide) (fun _ _ h => by rw [h.1]; rfl) (fun _ U U' hal hh h => ⟨h.1, h.2.1.mv hal hh, h.2.2⟩) (fun r U U' V V' h1 hal h2 h => ⟨NewArr.mv r U U' V V' h1 hal h2 h.1, by rw [h1, h2]; exact h.2⟩) ?_
  intro p e s m args below meth c s₁ X0 hexec hbytes hml hret hlk hnm hown hh0 W hP
  obtain ⟨rfl, hA, l1, l2, hp⟩ := hP
  have a31 := hA.1.2.2.2
  have c1 : Steps p.tables e below (s₁.setTop (entryFrame m #[.ref b, .int (Int32.ofNat o), .int (Int32.ofNat len)] 6)) (s₁.setTop (mkF m 0 #[.val (.ref b), .val (.int (Int32.ofNat o)), .val (.int (Int32.ofNat len)), .unset, .unset, .unset] [])) := entry rfl
  have c2 : Steps p.tables e below (s₁.setTop (entryFrame m #[.ref b, .int (Int32.ofNat o), .int (Int32.ofNat len)] 6)) (s₁.setTop (mkF m 1 #[.val (.ref b), .val (.int (Int32.ofNat o)), .val (.int (Int32.ofNat len)), .unset, .unset, .unset] [.int (Int32.ofNat len)])) := c1.trans (by
    refine XS.iloadN X0.here hexec rfl (hb hbytes d0) rfl ?_
    exact Steps.refl _)
  obtain ⟨T3, B3, X3, ba3, bs3, bv3, bh3, bf3, st3⟩ := X0.anew hexec (atype := .byte) (wk W (.arrayClass .byte)) rfl (by show len * 1 ≤ _; omega) (by omega) (g := (mkF m 1 #[.val (.ref b), .val (.int (Int32.ofNat o)), .val (.int (Int32.ofNat len)), .unset, .unset, .unset] [.int (Int32.ofNat len)])) rfl (hb hbytes d1) (rest := []) rfl (Nat.le_refl _) (by show 0 + len ≤ len; omega)
  rw [hh0] at ba3 st3
  have kp3 : XT.Kept s T3 := (XT.Kept.of_eq hh0).push bh3
  have hA3 := hA.keep X3.warmed.alike (kp3 _ _ hA.1.1)
  have hne : b ≠ s.heap.size := hA.1.ne
  have c4 : Steps p.tables e below (s₁.setTop (entryFrame m #[.ref b, .int (Int32.ofNat o), .int (Int32.ofNat len)] 6)) (T3.setTop (mkF m 3 #[.val (.ref b), .val (.int (Int32.ofNat o)), .val (.int (Int32.ofNat len)), .unset, .unset, .unset] [.ref s.heap.size])) := c2.trans (st3 _ (Steps.refl _))
  have c5 : Steps p.tables e below (s₁.setTop (entryFrame m #[.ref b, .int (Int32.ofNat o), .int (Int32.ofNat len)] 6)) (T3.setTop (mkF m 9 #[.val (.ref b), .val (.int (Int32.ofNat o)), .val (.int (Int32.ofNat len)), .val (.ref s.heap.size), .unset, .unset] [.int (Int32.ofNat len), .int 0, .ref s.heap.size, .int (Int32.ofNat o), .ref b])) := c4.trans (by
    refine XS.astoreN X3.here hexec rfl (hb hbytes d3) rfl rfl rfl ?_
    refine XS.aloadN X3.here hexec rfl (hb hbytes d4) rfl rfl ?_
    refine XS.iloadN X3.here hexec rfl (hb hbytes d5) rfl ?_
    refine XS.aloadN X3.here hexec rfl (hb hbytes d6) rfl rfl ?_
    refine iconstV X3.here hexec rfl 0 (hb hbytes d7) (by decide) ?_
    refine XS.iloadN X3.here hexec rfl (hb hbytes d8) rfl ?_
    exact Steps.refl _)
  obtain ⟨v6, T6, X6, E6, g6⟩ := X3.callS hexec (Cmp5.law l b A s.heap.size B3 o 0 len) hown (wks W (staticW U16 115 Cmp5.yN)) (wk W Cmp5.tab) (W := 0) (Nat.le_of_ble_eq_true rfl) (Nat.le_of_ble_eq_true rfl) (Nat.le_refl _) (by show 0 + len + 0 ≤ len; omega) (g := (mkF m 9 #[.val (.ref b), .val (.int (Int32.ofNat o)), .val (.int (Int32.ofNat len)), .val (.ref s.heap.size), .unset, .unset] [.int (Int32.ofNat len), .int (Int32.ofNat 0), .ref s.heap.size, .int (Int32.ofNat o), .ref b])) rfl (by rw [hml]; rfl) c5 (argsL := [.ref b, .int (Int32.ofNat o), .ref s.heap.size, .int (Int32.ofNat 0), .int (Int32.ofNat len)]) (rest := []) rfl rfl (by show 2 * 0 + 0 ≤ _; decide) (hb hbytes d9) (⟨rfl, hA3, ba3, hne, l1, by rw [bs3]; simp, hp⟩)
  obtain ⟨rfl, B6, p6, f6⟩ := E6
  have c7 : Steps p.tables e below (s₁.setTop (entryFrame m #[.ref b, .int (Int32.ofNat o), .int (Int32.ofNat len)] 6)) (T6.setTop (mkF m 12 #[.val (.ref b), .val (.int (Int32.ofNat o)), .val (.int (Int32.ofNat len)), .val (.ref s.heap.size), .unset, .unset] [.int (Int32.ofNat len)])) := g6
  have c8 : Steps p.tables e below (s₁.setTop (entryFrame m #[.ref b, .int (Int32.ofNat o), .int (Int32.ofNat len)] 6)) (T6.setTop (mkF m 58 #[.val (.ref b), .val (.int (Int32.ofNat o)), .val (.int (Int32.ofNat len)), .val (.ref s.heap.size), .val (.int (Int32.ofNat len)), .unset] [.ref s.heap.size])) := c7.trans (by
    refine XS.istore X6.here hexec rfl (hb hbytes d12) rfl rfl ?_
    refine XS.iload X6.here hexec rfl (hb hbytes d14) rfl ?_
    refine XS.iloadN X6.here hexec rfl (hb hbytes d16) rfl ?_
    refine XS.icmpYes X6.here hexec rfl (pc0 := 17) rfl (hb hbytes d17) rfl (ii_eq_t rfl) (by decide) rfl ?_
    refine XS.aloadN X6.here hexec rfl (hb hbytes d57) rfl rfl ?_
    exact Steps.refl _)
  have X8 := X6.wide (L' := []) (cells' := 1) (slots' := len) (fun x hx hlt => by
    simp only [List.nil_append, copyLocs, List.mem_map, List.mem_range] at hx
    obtain ⟨i, -, rfl⟩ := hx
    exact absurd hlt (Nat.lt_irrefl _)) (Nat.le_refl _) (by omega)
  exact ⟨T6, some (.ref s.heap.size), _, _, _, X8, rfl, rfl, rfl, (fun h => by cases h), ⟨⟨rfl, B6, ba3.like (X3.warmed.alike.symm.trans X6.warmed.alike) p6.1 f6.1 f6.2.1 f6.2.2.1, f6.2.1.trans bv3, by rw [X6.warmed.alike.findClass, f6.1]; exact bf3, by rw [f6.2.2.1, bs3]; simp, fun j hj => by rw [f6.2.2.2 j, if_pos (by omega)]; rfl, kp3.put p6 (Nat.le_refl _)⟩, by rw [p6.2.2, bh3, hh0]; simp⟩, fun fs hl => c8.trans (X8.areturnOut hexec rfl hret rfl (hb hbytes d58) hl)⟩
end Cmp3
namespace CodL
def yN : MethodName := ⟨"java/lang/StringUTF16", "coderFromArrayLen", "([BI)B"⟩
abbrev yB : ByteArray := jdk_52_method_15_code
theorem d0 : decode yB 0 = .ok (.iload_n 1, 1) := by decide +kernel
theorem d1 : decode yB 1 = .ok (.aload_n 0, 1) := by decide +kernel
theorem d2 : decode yB 2 = .ok (.arraylength, 1) := by decide +kernel
theorem d3 : decode yB 3 = .ok (.isub, 1) := by decide +kernel
theorem d4 : decode yB 4 = .ok (.bipush 31, 2) := by decide +kernel
theorem d6 : decode yB 6 = .ok (.iushr, 1) := by decide +kernel
theorem d7 : decode yB 7 = .ok (.i2b, 1) := by decide +kernel
theorem d8 : decode yB 8 = .ok (.ireturn, 1) := by decide +kernel
def site : List Cond := []
def tab : Cond := tabOf yN yB 2 (some .byte) site
def P (d : Addr) (B : Cell) (args : Array Value) (s : State) : Prop := args = #[.ref d, .int (Int32.ofNat B.slots.size)] ∧ Arr .byte d B s
def E (r : Option Value) (s u : State) : Prop := XT.PureE (some (.int 0)) r s u
/-- an array as long as the number of chars: LATIN1 -/
theorem law (l : Launch) (d : Addr) (B : Cell) : Law l yN 2 2 0 0 yB 2 (some .byte) site (P d B) E [] 0 0 := by
  refine Law.of_walk (plainFor_of_name (by decide +kernel)) (by decide +kernel) (by decide +kernel) (by decide) (fun _ _ h => by rw [h.1]; rfl) (fun _ U U' hal hh h => ⟨h.1, h.2.mv hal hh⟩) (fun r U U' V V' h1 hal h2 h => XT.PureE.mv r U U' V V' h1 hal h2 h) ?_
  intro p e s m args below meth c s₁ X0 hexec hbytes hml hret hlk hnm hown hh0 W hP
  obtain ⟨rfl, hB⟩ := hP
  have hB0 := hB.mv X0.warmed.alike hh0
  have c1 : Steps p.tables e below (s₁.setTop (entryFrame m #[.ref d, .int (Int32.ofNat B.slots.size)] 2)) (s₁.setTop (mkF m 0 #[.val (.ref d), .val (.int (Int32.ofNat B.slots.size))] [])) := entry rfl
  have c2 : Steps p.tables e below (s₁.setTop (entryFrame m #[.ref d, .int (Int32.ofNat B.slots.size)] 2)) (s₁.setTop (mkF m 2 #[.val (.ref d), .val (.int (Int32.ofNat B.slots.size))] [.ref d, .int (Int32.ofNat B.slots.size)])) := c1.trans (by
    refine XS.iloadN X0.here hexec rfl (hb hbytes d0) rfl ?_
    refine XS.aloadN X0.here hexec rfl (hb hbytes d1) rfl rfl ?_
    exact Steps.refl _)
  have c3 : Steps p.tables e below (s₁.setTop (entryFrame m #[.ref d, .int (Int32.ofNat B.slots.size)] 2)) (s₁.setTop (mkF m 8 #[.val (.ref d), .val (.int (Int32.ofNat B.slots.size))] [.int (lo8 (ushr (Int32.ofNat B.slots.size - Int32.ofNat B.slots.size) 31))])) := c2.trans (by
    refine X0.alen hexec hB0 rfl rfl (hb hbytes d2) ?_
    refine XS.isub X0.here hexec rfl (hb hbytes d3) rfl ?_
    refine bipushV X0.here hexec rfl 31 (hb hbytes d4) (by decide) ?_
    refine iushr X0.here hexec rfl (hb hbytes d6) rfl ?_
    refine i2b X0.here hexec rfl (hb hbytes d7) rfl ?_
    exact Steps.refl _)
  have e0 : lo8 (ushr (Int32.ofNat B.slots.size - Int32.ofNat B.slots.size) 31) = 0 := by rw [Int32.sub_self]; decide
  rw [e0] at c3
  exact ⟨s₁, some (.int 0), _, _, _, X0, rfl, rfl, rfl, (fun h => by cases h), ⟨rfl, hh0⟩, fun fs hl => c3.trans (X0.ireturnOut hexec hret rfl (Or.inr (Or.inr (Or.inl rfl))) (hb hbytes d8) hl)⟩
end CodL
/-- the String at a is Latin-1 over a new byte[] (the heap's one new cell): the low bytes of the len chars of A from o on; every cell but a is kept -/
def Got (a : Addr) (D : Cell) (fV fC : Field) (A : Cell) (o len : Nat) (r : Option Value) (s u : State) : Prop := r = none ∧ ∃ D' V : Cell, Blank "java/lang/String" a D' u ∧ Same D D' [fV.slot, fC.slot] ∧ D'.slots[fV.slot]? = some (.ref s.heap.size) ∧ D'.slots[fC.slot]? = some (.int 0) ∧ Arr .byte s.heap.size V u ∧ V.vm = .none ∧ u.vm.findClass "[B" = some V.cls ∧ V.slots.size = len ∧ (∀ j, j < len → V.slots[j]? = some (.int (lo8 (cv A (o + j))))) ∧ (∀ (y : Addr) (c : Cell), y ≠ a → s.heap[y]? = some c → u.heap[y]? = some c) ∧ u.heap.size = s.heap.size + 1
theorem Got.mv {a : Addr} {D A : Cell} {fV fC : Field} {o len : Nat} : ∀ r (U U' V V' : State), U'.heap = U.heap → V.vm.Alike V'.vm → V'.heap = V.heap → Got a D fV fC A o len r U V → Got a D fV fC A o len r U' V' :=
  fun r U U' V V' h1 hal h2 ⟨e0, D', X, a1, a2, a3, a4, a5, a6, a7, a8, a9, a10, a11⟩ => ⟨e0, D', X, a1.mv hal h2, a2, by rw [h1]; exact a3, a4, by rw [h1]; exact a5.mv hal h2, a6, by rw [hal.findClass]; exact a7, a8, a9, by rw [h1, h2]; exact a10, by rw [h1, h2]; exact a11⟩
namespace New4
def yN : MethodName := ⟨"java/lang/String", "<init>", "([CIILjava/lang/Void;)V"⟩
abbrev yB : ByteArray := jdk_42_method_149_code
theorem d0 : decode yB 0 = .ok (.aload_n 0, 1) := by decide +kernel
theorem d1 : decode yB 1 = .ok (.invokespecial 1, 3) := by decide +kernel
theorem d4 : decode yB 4 = .ok (.iload_n 3, 1) := by decide +kernel
theorem d5 : decode yB 5 = .ok (.ifCond (.ne) 22, 3) := by decide +kernel
theorem d27 : decode yB 27 = .ok (.getstatic 38, 3) := by decide +kernel
theorem d30 : decode yB 30 = .ok (.ifCond (.eq) 28, 3) := by decide +kernel
theorem d33 : decode yB 33 = .ok (.aload_n 1, 1) := by decide +kernel
theorem d34 : decode yB 34 = .ok (.iload_n 2, 1) := by decide +kernel
theorem d35 : decode yB 35 = .ok (.iload_n 3, 1) := by decide +kernel
theorem d36 : decode yB 36 = .ok (.invokestatic 177, 3) := by decide +kernel
theorem d39 : decode yB 39 = .ok (.astore 5, 2) := by decide +kernel
theorem d41 : decode yB 41 = .ok (.aload_n 0, 1) := by decide +kernel
theorem d42 : decode yB 42 = .ok (.aload 5, 2) := by decide +kernel
theorem d44 : decode yB 44 = .ok (.iload_n 3, 1) := by decide +kernel
theorem d45 : decode yB 45 = .ok (.invokestatic 47, 3) := by decide +kernel
theorem d48 : decode yB 48 = .ok (.putfield 15, 3) := by decide +kernel
theorem d51 : decode yB 51 = .ok (.aload_n 0, 1) := by decide +kernel
theorem d52 : decode yB 52 = .ok (.aload 5, 2) := by decide +kernel
theorem d54 : decode yB 54 = .ok (.putfield 9, 3) := by decide +kernel
theorem d57 : decode yB 57 = .ok (.return_, 1) := by decide +kernel
def site : List Cond := [.fieldLink "java/lang/String" 38 "java/lang/String" "COMPACT_STRINGS" "Z", Cmp3.tab, CodL.tab, .laysFinal "java/lang/String" "java/lang/String" "value" "[B", .fieldLink "java/lang/String" 9 "java/lang/String" "value" "[B", .laysFinal "java/lang/String" "java/lang/String" "coder" "B", .fieldLink "java/lang/String" 15 "java/lang/String" "coder" "B"] ++ objW "java/lang/String" 1 ++ staticW "java/lang/String" 177 Cmp3.yN ++ staticW "java/lang/String" 47 CodL.yN
def tab : Cond := tabOf yN yB 6 none site
def P (a : Addr) (D : Cell) (fV fC : Field) (b : Addr) (A : Cell) (z : Int32) (o len : Nat) (args : Array Value) (s : State) : Prop := args = #[.ref a, .ref b, .int (Int32.ofNat o), .int (Int32.ofNat len), .null] ∧ Blank "java/lang/String" a D s ∧ Found "java/lang/String" "value" "[B" fV s ∧ Found "java/lang/String" "coder" "B" fC s ∧ Ch b A s ∧ StaticIs s "java/lang/String" "COMPACT_STRINGS" "Z" (.int z) ∧ ¬ z = 0 ∧ 0 < len ∧ o + len ≤ A.slots.size ∧ len ≤ 536870912 ∧ ∀ i, i < len → ¬ 255 < cv A (o + i)
def E (a : Addr) (D : Cell) (fV fC : Field) (A : Cell) (o len : Nat) (r : Option Value) (s u : State) : Prop := Got a D fV fC A o len r s u
/-- len > 0, no char of the range above 255: a Latin-1 String of their low bytes -/
theorem law (l : Launch) (a : Addr) (D : Cell) (fV fC : Field) (b : Addr) (A : Cell) (z : Int32) (o len : Nat) : Law l yN 5 4 2 35 yB 6 none site (P a D fV fC b A z o len) (E a D fV fC A o len) [⟨a, fC.slot⟩, ⟨a, fV.slot⟩] 1 len := by
  refine Law.of_walk (plainFor_of_name (by decide +kernel)) (by decide +kernel) (by decide +kernel) (by decide) (fun _ _ h => by rw [h.1]; rfl) (fun _ U U' hal hh h => ⟨h.1, h.2.1.mv hal hh, h.2.2.1.al hal, h.2.2.2.1.al hal, h.2.2.2.2.1.mv hal hh, h.2.2.2.2.2.1.there hal hh, h.2.2.2.2.2.2⟩) (fun r U U' V V' h1 hal h2 h => Got.mv r U U' V V' h1 hal h2 h) ?_
  intro p e s m args below meth c s₁ X0 hexec hbytes hml hret hlk hnm hown hh0 W hP
  obtain ⟨rfl, hB, f1, f2, hA, s1, hz, l0, l1, l2, hp⟩ := hP
  have a31 := hA.1.2.2.2
  have c1 : Steps p.tables e below (s₁.setTop (entryFrame m #[.ref a, .ref b, .int (Int32.ofNat o), .int (Int32.ofNat len), .null] 6)) (s₁.setTop (mkF m 0 #[.val (.ref a), .val (.ref b), .val (.int (Int32.ofNat o)), .val (.int (Int32.ofNat len)), .val .null, .unset] [])) := entry rfl
  have c2 : Steps p.tables e below (s₁.setTop (entryFrame m #[.ref a, .ref b, .int (Int32.ofNat o), .int (Int32.ofNat len), .null] 6)) (s₁.setTop (mkF m 1 #[.val (.ref a), .val (.ref b), .val (.int (Int32.ofNat o)), .val (.int (Int32.ofNat len)), .val .null, .unset] [.ref a])) := c1.trans (by
    refine XS.aloadN X0.here hexec rfl (hb hbytes d0) rfl rfl ?_
    exact Steps.refl _)
  obtain ⟨T3, X3, q3, st3⟩ := X0.oinit hexec hown (wks W (objW "java/lang/String" 1)) (g := (mkF m 1 #[.val (.ref a), .val (.ref b), .val (.int (Int32.ofNat o)), .val (.int (Int32.ofNat len)), .val .null, .unset] [.ref a])) rfl (by rw [hml]; rfl) (rest := []) rfl (hb hbytes d1) (W := 0) (by show 2 * 0 + 0 ≤ _; decide) (Nat.le_of_ble_eq_true rfl) (Nat.le_of_ble_eq_true rfl)
  have hh3 := q3.trans hh0
  have c4 : Steps p.tables e below (s₁.setTop (entryFrame m #[.ref a, .ref b, .int (Int32.ofNat o), .int (Int32.ofNat len), .null] 6)) (T3.setTop (mkF m 27 #[.val (.ref a), .val (.ref b), .val (.int (Int32.ofNat o)), .val (.int (Int32.ofNat len)), .val .null, .unset] [])) := (c2.trans (st3 _ (Steps.refl _))).trans (by
    refine XS.iloadN X3.here hexec rfl (hb hbytes d4) rfl ?_
    refine XS.ifYes X3.here hexec rfl (pc0 := 5) rfl (hb hbytes d5) rfl (i0_ne_t (nz32 (by omega) l0)) (by decide) rfl ?_
    exact Steps.refl _)
  obtain ⟨T5, X5, q5, st5⟩ := X3.sget hexec hown (wk W (.fieldLink "java/lang/String" 38 "java/lang/String" "COMPACT_STRINGS" "Z")) s1 (fun _ _ h => by rw [hh3]; exact h) (g := (mkF m 27 #[.val (.ref a), .val (.ref b), .val (.int (Int32.ofNat o)), .val (.int (Int32.ofNat len)), .val .null, .unset] [])) rfl (hb hbytes d27)
  have hh5 := q5.trans hh3
  have c6 : Steps p.tables e below (s₁.setTop (entryFrame m #[.ref a, .ref b, .int (Int32.ofNat o), .int (Int32.ofNat len), .null] 6)) (T5.setTop (mkF m 30 #[.val (.ref a), .val (.ref b), .val (.int (Int32.ofNat o)), .val (.int (Int32.ofNat len)), .val .null, .unset] [.int z])) := c4.trans (st5 _ (Steps.refl _))
  have c7 : Steps p.tables e below (s₁.setTop (entryFrame m #[.ref a, .ref b, .int (Int32.ofNat o), .int (Int32.ofNat len), .null] 6)) (T5.setTop (mkF m 36 #[.val (.ref a), .val (.ref b), .val (.int (Int32.ofNat o)), .val (.int (Int32.ofNat len)), .val .null, .unset] [.int (Int32.ofNat len), .int (Int32.ofNat o), .ref b])) := c6.trans (by
    refine XS.ifNo X5.here hexec rfl (hb hbytes d30) rfl (i0_eq_f hz) ?_
    refine XS.aloadN X5.here hexec rfl (hb hbytes d33) rfl rfl ?_
    refine XS.iloadN X5.here hexec rfl (hb hbytes d34) rfl ?_
    refine XS.iloadN X5.here hexec rfl (hb hbytes d35) rfl ?_
    exact Steps.refl _)
  obtain ⟨v8, T8, X8, E8, g8⟩ := X5.callS hexec (Cmp3.law l b A o len) hown (wks W (staticW "java/lang/String" 177 Cmp3.yN)) (wk W Cmp3.tab) (W := 0) (Nat.le_of_ble_eq_true rfl) (Nat.le_of_ble_eq_true rfl) (Nat.le_refl _) (by show 0 + len ≤ len; omega) (g := (mkF m 36 #[.val (.ref a), .val (.ref b), .val (.int (Int32.ofNat o)), .val (.int (Int32.ofNat len)), .val .null, .unset] [.int (Int32.ofNat len), .int (Int32.ofNat o), .ref b])) rfl (by rw [hml]; rfl) c7 (argsL := [.ref b, .int (Int32.ofNat o), .int (Int32.ofNat len)]) (rest := []) rfl rfl (by show 2 * 0 + 0 ≤ _; decide) (hb hbytes d36) (⟨rfl, hA.mv X5.warmed.alike hh5, l1, l2, hp⟩)
  obtain ⟨e8, z8⟩ := E8
  obtain ⟨rfl, N, n1, n2, n3, n4, n5, n6⟩ := NewArr.mv _ T5 s _ _ hh5.symm (Vm.Alike.refl _) rfl e8
  rw [hh5] at z8
  have hB1 := hB.keep X8.warmed.alike (n6 _ _ hB.1)
  have hne : s.heap.size ≠ a := (Nat.ne_of_lt (Array.getElem?_eq_some_iff.mp hB.1).1).symm
  have c9 : Steps p.tables e below (s₁.setTop (entryFrame m #[.ref a, .ref b, .int (Int32.ofNat o), .int (Int32.ofNat len), .null] 6)) (T8.setTop (mkF m 39 #[.val (.ref a), .val (.ref b), .val (.int (Int32.ofNat o)), .val (.int (Int32.ofNat len)), .val .null, .unset] [.ref s.heap.size])) := g8
  have c10 : Steps p.tables e below (s₁.setTop (entryFrame m #[.ref a, .ref b, .int (Int32.ofNat o), .int (Int32.ofNat len), .null] 6)) (T8.setTop (mkF m 45 #[.val (.ref a), .val (.ref b), .val (.int (Int32.ofNat o)), .val (.int (Int32.ofNat len)), .val .null, .val (.ref s.heap.size)] [.int (Int32.ofNat N.slots.size), .ref s.heap.size, .ref a])) := by
    have hc : Steps p.tables e below (s₁.setTop (entryFrame m #[.ref a, .ref b, .int (Int32.ofNat o), .int (Int32.ofNat len), .null] 6)) (T8.setTop (mkF m 45 #[.val (.ref a), .val (.ref b), .val (.int (Int32.ofNat o)), .val (.int (Int32.ofNat len)), .val .null, .val (.ref s.heap.size)] [.int (Int32.ofNat len), .ref s.heap.size, .ref a])) := c9.trans (by
      refine XS.astore X8.here hexec rfl (hb hbytes d39) rfl rfl rfl ?_
      refine XS.aloadN X8.here hexec rfl (hb hbytes d41) rfl rfl ?_
      refine XS.aload X8.here hexec rfl (hb hbytes d42) rfl rfl ?_
      refine XS.iloadN X8.here hexec rfl (hb hbytes d44) rfl ?_
      exact Steps.refl _)
    rw [n4]; exact hc
  obtain ⟨v11, T11, X11, E11, g11⟩ := X8.callS hexec (CodL.law l s.heap.size N) hown (wks W (staticW "java/lang/String" 47 CodL.yN)) (wk W CodL.tab) (W := 1) (Nat.le_of_ble_eq_true rfl) (Nat.le_of_ble_eq_true rfl) (Nat.le_refl _) (by show 0 + len + 0 ≤ len; omega) (g := (mkF m 45 #[.val (.ref a), .val (.ref b), .val (.int (Int32.ofNat o)), .val (.int (Int32.ofNat len)), .val .null, .val (.ref s.heap.size)] [.int (Int32.ofNat N.slots.size), .ref s.heap.size, .ref a])) rfl (by rw [hml]; rfl) c10 (argsL := [.ref s.heap.size, .int (Int32.ofNat N.slots.size)]) (rest := [.ref a]) rfl rfl (by show 2 * 0 + (1 + 0) ≤ _; decide) (hb hbytes d45) (⟨rfl, n1⟩)
  obtain ⟨rfl, q11⟩ := E11
  have hB11 := hB1.mv (X8.warmed.alike.symm.trans X11.warmed.alike) q11
  have c12 : Steps p.tables e below (s₁.setTop (entryFrame m #[.ref a, .ref b, .int (Int32.ofNat o), .int (Int32.ofNat len), .null] 6)) (T11.setTop (mkF m 48 #[.val (.ref a), .val (.ref b), .val (.int (Int32.ofNat o)), .val (.int (Int32.ofNat len)), .val .null, .val (.ref s.heap.size)] [.int 0, .ref a])) := g11
  obtain ⟨T13, X13, p13, bl13, sl13, st13⟩ := X11.finit hexec hown (wk W (.fieldLink "java/lang/String" 15 "java/lang/String" "coder" "B")) (Or.inr ⟨_, (wk W (.laysFinal "java/lang/String" "java/lang/String" "coder" "B"))⟩) (Or.inl ⟨rfl, hnm⟩) f2 (Or.inl rfl) hB11 (t := .byte) (by decide +kernel) rfl (g := (mkF m 48 #[.val (.ref a), .val (.ref b), .val (.int (Int32.ofNat o)), .val (.int (Int32.ofNat len)), .val .null, .val (.ref s.heap.size)] [.int 0, .ref a])) rfl (rest := []) rfl (hb hbytes d48)
  have c14 : Steps p.tables e below (s₁.setTop (entryFrame m #[.ref a, .ref b, .int (Int32.ofNat o), .int (Int32.ofNat len), .null] 6)) (T13.setTop (mkF m 54 #[.val (.ref a), .val (.ref b), .val (.int (Int32.ofNat o)), .val (.int (Int32.ofNat len)), .val .null, .val (.ref s.heap.size)] [.ref s.heap.size, .ref a])) := (c12.trans (st13 _ (Steps.refl _))).trans (by
    refine XS.aloadN X13.here hexec rfl (hb hbytes d51) rfl rfl ?_
    refine XS.aload X13.here hexec rfl (hb hbytes d52) rfl rfl ?_
    exact Steps.refl _)
  obtain ⟨T15, X15, p15, bl15, sl15, st15⟩ := X13.finit hexec hown (wk W (.fieldLink "java/lang/String" 9 "java/lang/String" "value" "[B")) (Or.inr ⟨_, (wk W (.laysFinal "java/lang/String" "java/lang/String" "value" "[B"))⟩) (Or.inl ⟨rfl, hnm⟩) f1 (Or.inl rfl) bl13 (t := (.array .byte)) (by decide +kernel) rfl (g := (mkF m 54 #[.val (.ref a), .val (.ref b), .val (.int (Int32.ofNat o)), .val (.int (Int32.ofNat len)), .val .null, .val (.ref s.heap.size)] [.ref s.heap.size, .ref a])) rfl (rest := []) rfl (hb hbytes d54)
  have c16 : Steps p.tables e below (s₁.setTop (entryFrame m #[.ref a, .ref b, .int (Int32.ofNat o), .int (Int32.ofNat len), .null] 6)) (T15.setTop (mkF m 57 #[.val (.ref a), .val (.ref b), .val (.int (Int32.ofNat o)), .val (.int (Int32.ofNat len)), .val .null, .val (.ref s.heap.size)] [])) := c14.trans (st15 _ (Steps.refl _))
  have ap := apart (Or.inr ⟨_, (wk W (.laysFinal "java/lang/String" "java/lang/String" "value" "[B"))⟩) (Or.inr ⟨_, (wk W (.laysFinal "java/lang/String" "java/lang/String" "coder" "B"))⟩) f1 f2 (t₁ := .array .byte) (t₂ := .byte) (by decide +kernel) (by decide +kernel) (by decide)
  have al := X8.warmed.alike.symm.trans X15.warmed.alike
  have n7 : T11.heap[s.heap.size]? = some N := by rw [q11]; exact n1.1
  exact ⟨T15, none, _, _, _, X15, by simp, rfl, by omega, (fun _ => rfl), ⟨rfl, _, N, bl15, ((Same.refl D _).set _ (by simp)).set _ (by simp), sl15, (Cell.slots_setSlot_ne _ ap).trans sl13, n1.keep al (p15.other hne (p13.other hne n7)), n2, by rw [al.findClass]; exact n3, n4, n5, fun y c h1 h2 => p15.other h1 (p13.other h1 (by rw [q11]; exact n6 y c h2)), by rw [p15.2.2, p13.2.2, q11]; exact z8⟩, fun fs hl => c16.trans (X15.returnOut hexec hret (hb hbytes d57) hl)⟩
end New4
namespace New1
def yN : MethodName := ⟨"java/lang/String", "<init>", "([C)V"⟩
abbrev yB : ByteArray := jdk_42_method_3_code
theorem d0 : decode yB 0 = .ok (.aload_n 0, 1) := by decide +kernel
theorem d1 : decode yB 1 = .ok (.aload_n 1, 1) := by decide +kernel
theorem d2 : decode yB 2 = .ok (.iconst 0, 1) := by decide +kernel
theorem d3 : decode yB 3 = .ok (.aload_n 1, 1) := by decide +kernel
theorem d4 : decode yB 4 = .ok (.arraylength, 1) := by decide +kernel
theorem d5 : decode yB 5 = .ok (.aconst_null, 1) := by decide +kernel
theorem d6 : decode yB 6 = .ok (.invokespecial 27, 3) := by decide +kernel
theorem d9 : decode yB 9 = .ok (.return_, 1) := by decide +kernel
def site : List Cond := [New4.tab] ++ initW "java/lang/String" 27 New4.yN
def tab : Cond := tabOf yN yB 2 none site
def P (a : Addr) (D : Cell) (fV fC : Field) (b : Addr) (A : Cell) (z : Int32) (args : Array Value) (s : State) : Prop := args = #[.ref a, .ref b] ∧ Blank "java/lang/String" a D s ∧ Found "java/lang/String" "value" "[B" fV s ∧ Found "java/lang/String" "coder" "B" fC s ∧ Ch b A s ∧ StaticIs s "java/lang/String" "COMPACT_STRINGS" "Z" (.int z) ∧ ¬ z = 0 ∧ 0 < A.slots.size ∧ A.slots.size ≤ 536870912 ∧ ∀ i, i < A.slots.size → ¬ 255 < cv A i
def E (a : Addr) (D : Cell) (fV fC : Field) (A : Cell) (r : Option Value) (s u : State) : Prop := Got a D fV fC A 0 A.slots.size r s u
/-- new String(chars), not empty, no char above 255: a Latin-1 String of their low bytes -/
theorem law (l : Launch) (a : Addr) (D : Cell) (fV fC : Field) (b : Addr) (A : Cell) (z : Int32) : Law l yN 2 1 3 52 yB 2 none site (P a D fV fC b A z) (E a D fV fC A) [⟨a, fC.slot⟩, ⟨a, fV.slot⟩] 1 A.slots.size := by
  refine Law.of_walk (plainFor_of_name (by decide +kernel)) (by decide +kernel) (by decide +kernel) (by decide) (fun _ _ h => by rw [h.1]; rfl) (fun _ U U' hal hh h => ⟨h.1, h.2.1.mv hal hh, h.2.2.1.al hal, h.2.2.2.1.al hal, h.2.2.2.2.1.mv hal hh, h.2.2.2.2.2.1.there hal hh, h.2.2.2.2.2.2⟩) (fun r U U' V V' h1 hal h2 h => Got.mv r U U' V V' h1 hal h2 h) ?_
  intro p e s m args below meth c s₁ X0 hexec hbytes hml hret hlk hnm hown hh0 W hP
  obtain ⟨rfl, hB, f1, f2, hA, s1, hz, l0, l2, hp⟩ := hP
  have c1 : Steps p.tables e below (s₁.setTop (entryFrame m #[.ref a, .ref b] 2)) (s₁.setTop (mkF m 0 #[.val (.ref a), .val (.ref b)] [])) := entry rfl
  have c2 : Steps p.tables e below (s₁.setTop (entryFrame m #[.ref a, .ref b] 2)) (s₁.setTop (mkF m 6 #[.val (.ref a), .val (.ref b)] [.null, .int (Int32.ofNat A.slots.size), .int 0, .ref b, .ref a])) := c1.trans (by
    refine XS.aloadN X0.here hexec rfl (hb hbytes d0) rfl rfl ?_
    refine XS.aloadN X0.here hexec rfl (hb hbytes d1) rfl rfl ?_
    refine iconstV X0.here hexec rfl 0 (hb hbytes d2) (by decide) ?_
    refine XS.aloadN X0.here hexec rfl (hb hbytes d3) rfl rfl ?_
    refine X0.alen hexec (hA.1.mv X0.warmed.alike hh0) rfl rfl (hb hbytes d4) ?_
    refine XS.aconstNull X0.here hexec rfl (hb hbytes d5) ?_
    exact Steps.refl _)
  obtain ⟨v3, T3, X3, E3, g3⟩ := X0.callN hexec (New4.law l a D fV fC b A z 0 A.slots.size) rfl hown (wks W (initW "java/lang/String" 27 New4.yN)) (W New4.tab (by simp only [site, List.mem_cons, List.mem_append, true_or, or_true])) (W := 0) (Nat.le_of_ble_eq_true rfl) (Nat.le_of_ble_eq_true rfl) (Nat.le_refl _) (by show 0 + A.slots.size ≤ A.slots.size; omega) (g := (mkF m 6 #[.val (.ref a), .val (.ref b)] [.null, .int (Int32.ofNat A.slots.size), .int (Int32.ofNat 0), .ref b, .ref a])) rfl (by rw [hml]; rfl) c2 (argsL := [.ref b, .int (Int32.ofNat 0), .int (Int32.ofNat A.slots.size), .null]) (rest := []) rfl rfl (by show 2 * 0 + 0 ≤ _; decide) (hb hbytes d6) (⟨rfl, hB.mv X0.warmed.alike hh0, f1.al X0.warmed.alike, f2.al X0.warmed.alike, hA.mv X0.warmed.alike hh0, s1.there X0.warmed.alike hh0, hz, l0, by omega, l2, fun i hi => by rw [Nat.zero_add]; exact hp i hi⟩)
  have e0 := Got.mv _ s₁ s _ _ hh0.symm (Vm.Alike.refl _) rfl E3
  obtain rfl := e0.1
  have c4 : Steps p.tables e below (s₁.setTop (entryFrame m #[.ref a, .ref b] 2)) (T3.setTop (mkF m 9 #[.val (.ref a), .val (.ref b)] [])) := g3
  exact ⟨T3, none, _, _, _, X3, by simp, rfl, by omega, (fun _ => rfl), e0, fun fs hl => c4.trans (X3.returnOut hexec hret (hb hbytes d9) hl)⟩
theorem pays {l : Launch} {R : Room} {p : Program} {e : Env} {below : List Frame} {s : State} {sargs : Array Value} {len W : Nat} (a : Addr) (D : Cell) (fV fC : Field) (b : Addr) (A : Cell) (z : Int32) (htab : tab.before sargs s = true) (hfr : 4 ≤ R.frames) (hlo : W + 65 ≤ R.locals) :
    Back l R p e below s sargs yN len W (fun A₁ a₁ => A₁.cells + 1 ≤ R.cells ∧ A₁.slots + A.slots.size ≤ R.slots ∧ P a D fV fC b A z a₁ A₁.U) (fun A₁ _ v₁ B₁ => E a D fV fC A v₁ A₁.U B₁.U ∧ B₁.locs = A₁.locs ++ [⟨a, fC.slot⟩, ⟨a, fV.slot⟩] ∧ B₁.cells = A₁.cells + 1 ∧ B₁.slots = A₁.slots + A.slots.size) :=
  (law l a D fV fC b A z).pays htab hfr (by omega)
end New1
end StrChars
namespace StrChars.Road
open Jvm Sem ClassFile Op Lib Jvm.Stand Jvm.Free Jvm.Free.XT
open Jvm.Lib.Cold (StaticIs)
abbrev ST : String := "java/lang/String"
/-- every table word that New1's law asks, flat -/
abbrev words : List Jvm.Cond := [.code New1.yN New1.yB 2 none, .initialized ST, .methodLink ST 27 New4.yN, .instanceMethod New4.yN,
  .code New4.yN New4.yB 6 none, .fieldLink ST 38 ST "COMPACT_STRINGS" "Z", .laysFinal ST ST "value" "[B", .fieldLink ST 9 ST "value" "[B", .laysFinal ST ST "coder" "B", .fieldLink ST 15 ST "coder" "B",
  .methodLink ST 1 Lib.objectInit, .instanceMethod Lib.objectInit, .code Lib.objectInit ⟨#[0xb1]⟩ 1 none, .methodLink ST 177 Cmp3.yN, .static Cmp3.yN, .methodLink ST 47 CodL.yN, .static CodL.yN,
  .code Cmp3.yN Cmp3.yB 6 (some (.array .byte)), .initialized U16, .arrayClass .byte, .methodLink U16 115 Cmp5.yN, .static Cmp5.yN, .code Cmp5.yN Cmp5.yB 7 (some .int), .code CodL.yN CodL.yB 2 (some .byte)]
theorem tab_of {a : Array Value} {s : State} (h : ∀ w ∈ words, w.before a s = true) : New1.tab.before a s = true := by
  have h5 : Cmp5.tab.before a s = true := unparts (wk h (.code Cmp5.yN Cmp5.yB 7 (some .int))) (wks h (.initialized Cmp5.yN.cls :: Cmp5.site))
  have hc : CodL.tab.before a s = true := unparts (wk h (.code CodL.yN CodL.yB 2 (some .byte))) (wks h (.initialized CodL.yN.cls :: CodL.site))
  have q5 : ∀ w ∈ Cmp5.tab :: words, w.before a s = true := fun w hw => (List.mem_cons.mp hw).elim (fun e => e ▸ h5) (h w)
  have h3 : Cmp3.tab.before a s = true := unparts (wk q5 (.code Cmp3.yN Cmp3.yB 6 (some (.array .byte)))) (wks q5 (.initialized Cmp3.yN.cls :: Cmp3.site))
  have q3 : ∀ w ∈ Cmp3.tab :: CodL.tab :: words, w.before a s = true := fun w hw => (List.mem_cons.mp hw).elim (fun e => e ▸ h3) fun hw => (List.mem_cons.mp hw).elim (fun e => e ▸ hc) (h w)
  have h4 : New4.tab.before a s = true := unparts (wk q3 (.code New4.yN New4.yB 6 none)) (wks q3 (.initialized New4.yN.cls :: New4.site))
  have q4 : ∀ w ∈ New4.tab :: words, w.before a s = true := fun w hw => (List.mem_cons.mp hw).elim (fun e => e ▸ h4) (h w)
  exact unparts (wk q4 (.code New1.yN New1.yB 2 none)) (wks q4 (.initialized New1.yN.cls :: New1.site))
/-- the words ride from the start Z to the walk's own state -/
theorem moved {Z s : State} {a0 args : Array Value} (hZ : Z.Warmed39 s.vm) (hw : ∀ d ∈ words, d.before a0 Z = true) : ∀ d ∈ words, d.before args s = true := fun d hd => by
  have q := hw d hd
  have t : ∀ d ∈ words, d = .arrayClass .byte ∨ (d.onTables && d.keepsFace) = true := by decide +kernel
  rcases t d hd with rfl | t
  · exact RoadKit.mvA hZ q
  · exact RoadKit.mv hZ q t
/-- WHAT COMES BACK, over the tables of the start Z: h the heap at the call, h' behind it -/
def Q (Z : State) (x : Addr) (A : Cell) (h : Heap) (v : Option Value) (h' : Heap) (L : List Loc) : Prop := v = none ∧ (∀ y ∈ L, y.base = x) ∧ RoadKit.Keep h h' [x] ∧ h'.size = h.size + 1 ∧ RoadKit.Exa Z h' x ST ∧ RoadKit.Fld Z h' x ST "value" "[B" (.ref h.size) ∧ RoadKit.Fld Z h' x ST "coder" "B" (.int 0) ∧
  (∃ V : Cell, RoadKit.Arr Z h' h.size V .byte ∧ V.vm = .none ∧ Z.vm.findClass "[B" = some V.cls ∧ V.slots.size = A.slots.size ∧ ∀ j, j < A.slots.size → V.slots[j]? = some (.int (lo8 (cv A j)))) ∧
  ∀ (O n d : String) (w : Value), RoadKit.Fld Z h x O n d w → RoadKit.slotOf Z O n d ≠ RoadKit.slotOf Z ST "value" "[B" → RoadKit.slotOf Z O n d ≠ RoadKit.slotOf Z ST "coder" "B" → RoadKit.Fld Z h' x O n d w
/-- **new String(chars) AT A CALL, IN THE ROAD'S FORM**: for specialBack behind newO: x the fresh String, b the char[] with the cell A -/
theorem back {p : Program} {l : Launch} {e : Env} {R : Room} {s : State} {args : Array Value} {below : List Frame} {len W : Nat} {Z : State} {a0 : Array Value} {h : Heap} (hZ : Z.Warmed39 s.vm) (hw : ∀ d ∈ words, d.before a0 Z = true) {kI : Nat} (wi : (Jvm.Cond.instantiable ST kI).before a0 Z = true)
    {x b : Addr} {A : Cell} {z : Int32} {v0 c0 : Value} (E : RoadKit.Exa Z h x ST) (V : RoadKit.Fld Z h x ST "value" "[B" v0) (C : RoadKit.Fld Z h x ST "coder" "B" c0) (K : RoadKit.Arr Z h b A .char) (hty : Typed .char A) (S : RoadKit.Sta Z h ST "COMPACT_STRINGS" "Z" (.int z)) (hz : ¬ z = 0)
    (l0 : 0 < A.slots.size) (l2 : A.slots.size ≤ 536870912) (hp : ∀ i, i < A.slots.size → ¬ 255 < cv A i) (hfr : 4 ≤ R.frames) (hlo : W + 65 ≤ R.locals) :
    Back l R p e below s args New1.yN len W (fun P a => a = #[.ref x, .ref b] ∧ P.U.heap = h ∧ P.cells + 1 ≤ R.cells ∧ P.slots + A.slots.size ≤ R.slots)
      (fun P _ v B => ∃ L, Q Z x A h v B.U.heap L ∧ B.locs = P.locs ++ L ∧ B.cells = P.cells + 1 ∧ B.slots = P.slots + A.slots.size) := by
  intro m meth c P g ig mk a X hg hsize hdg hW hn hp'
  obtain ⟨rfl, rfl, r1, r2⟩ := hp'
  have al : Z.vm.Alike P.U.vm := hZ.alike.trans X.warmed.alike
  obtain ⟨D, cfV, kV, iV, fV, hD, gV, stV, knV, obV, asV, slV⟩ := id V
  obtain ⟨D', cfC, kC, iC, fC, hD', gC, stC, -, -, asC, slC⟩ := id C
  cases hD.symm.trans hD'
  obtain ⟨D2, kD, e1, e2, e3, e4, e5⟩ := id E
  cases hD.symm.trans e1
  obtain ⟨c2, k2, i1, i2, i3, -⟩ := Cond.instantiable_spec wi
  cases e2.symm.trans i1
  cases e3.symm.trans i2
  obtain ⟨kU, u1, u2⟩ := al.2.2 _ _ e3
  have hB : Blank ST x D P.U := ⟨hD, ⟨knV, fun q hq => by rw [hq] at obV; cases obV⟩, by rw [al.findClass]; exact e2, kU, u1, by rw [u2]; exact i3, by rw [u2]; exact e5 i3⟩
  have F1 : Found ST "value" "[B" fV P.U := ⟨SBG.found_only al ⟨cfV, kV, iV, gV⟩, stV⟩
  have F2 : Found ST "coder" "B" fC P.U := ⟨SBG.found_only al ⟨cfC, kC, iC, gC⟩, stC⟩
  have hA : Ch b A P.U := ⟨⟨K.1, State.isArrayOf_alike al K.2.1, K.2.2, by omega⟩, hty⟩
  have hS : StaticIs P.U ST "COMPACT_STRINGS" "Z" (.int z) := by
    obtain ⟨cfS, iS, kS, fS, st, cS, t1, t2, t3, t4, t5, t6, t7⟩ := S
    exact StaticIs.there (s := { Z with heap := P.U.heap }) ⟨cfS, iS, kS, fS, st, cS, t1, t2, t3, t4, t5, (fun q => by rw [q] at t6; cases t6), t7⟩ al rfl
  obtain ⟨v, B, X', ⟨⟨hv, E', V', q1, q2, q3, q4, q5, q6, q7, q8, q9, q10, q11⟩, hl, hc, hs⟩, st⟩ := New1.pays x D fV fC b A z (tab_of (moved hZ hw)) hfr hlo m meth c P g ig mk _ X hg hsize hdg hW hn ⟨r1, r2, rfl, hB, F1, F2, hA, hS, hz, l0, l2, hp⟩
  have al' : Z.vm.Alike B.U.vm := hZ.alike.trans X'.warmed.alike
  have hsz : E'.slots.size = D.slots.size := by
    obtain ⟨-, -, -, kB, w1, w2, w3⟩ := q1
    obtain ⟨kB', y1, y2⟩ := al'.2.2 _ _ e3
    rw [q2.2.1] at w1
    cases w1.symm.trans y1
    rw [w3, e5 i3, y2]
  refine ⟨v, B, X', ⟨_, ⟨hv, ?_, ⟨by omega, fun y cy hy hn' => q10 y cy (by simpa using hn') hy, fun y cy hy => ?_⟩, q11, ⟨E', _, q1.1, by rw [q2.2.1]; exact e2, by rw [q2.2.1]; exact e3, by rw [q2.1]; exact obV, fun _ => by rw [hsz]; exact e5 i3⟩,
    ⟨E', cfV, kV, iV, fV, q1.1, gV, stV, by rw [q2.1]; exact knV, by rw [q2.1]; exact obV, by rw [q2.2.1]; exact asV, q3⟩, ⟨E', cfC, kC, iC, fC, q1.1, gC, stC, by rw [q2.1]; exact knV, by rw [q2.1]; exact obV, by rw [q2.2.1]; exact asC, q4⟩,
    ⟨V', ⟨q5.1, State.isArrayOf_alike al'.symm q5.2.1, q5.2.2.1⟩, q6, by rw [← al'.findClass]; exact q7, q8, fun j hj => by have := q9 j hj; rwa [Nat.zero_add] at this⟩, fun O n d w F n1 n2 => ?_⟩, hl, hc, hs⟩, st⟩
  · intro y hy
    simp only [List.mem_cons, List.not_mem_nil, or_false] at hy
    rcases hy with rfl | rfl <;> rfl
  · by_cases q : y = x
    · subst q
      cases hD.symm.trans hy
      exact ⟨E', q1.1, q2.2.1, q2.1, hsz⟩
    · exact ⟨cy, q10 y cy q hy, rfl, rfl, rfl⟩
  · obtain ⟨D3, cf, k, i, f, g1, g2, g3, g4, g5, g6, g7⟩ := F
    cases hD.symm.trans g1
    simp only [RoadKit.slotOf, g2, gV, gC, Option.map_some, Option.getD_some] at n1 n2
    exact ⟨E', cf, k, i, f, q1.1, g2, g3, by rw [q2.1]; exact g4, by rw [q2.1]; exact g5, by rw [q2.2.1]; exact g6, by rw [q2.2.2 f.slot (by simp [n1, n2])]; exact g7⟩
end StrChars.Road
namespace StrChars.Road
open Jvm Sem ClassFile Op Lib Jvm.Stand Jvm.Free Jvm.Free.XT
/-- WHAT COMES BACK, the byte[] as a list of values -/
def QA (Z : State) (x : Addr) (zn : Int32) (cs : List Int32) (h : Heap) (v : Option Value) (h' : Heap) (L : List Loc) : Prop := v = none ∧ (∀ y ∈ L, y.base = x) ∧ RoadKit.Keep h h' [x] ∧ h'.size = h.size + 1 ∧ RoadKit.Exa Z h' x ST ∧ RoadKit.Fld Z h' x ST "value" "[B" (.ref h.size) ∧ RoadKit.Fld Z h' x ST "coder" "B" (.int 0) ∧
  (∃ kb, Z.vm.findClass "[B" = some kb ∧ RoadKit.Arv Z h' h.size kb .byte zn (cs.map fun c => .int (lo8 c)) (.int 0)) ∧
  ∀ (O n d : String) (w : Value), RoadKit.Fld Z h x O n d w → RoadKit.slotOf Z O n d ≠ RoadKit.slotOf Z ST "value" "[B" → RoadKit.slotOf Z O n d ≠ RoadKit.slotOf Z ST "coder" "B" → RoadKit.Fld Z h' x O n d w
/-- **new String(chars) AT A CALL, THE ARRAYS AS LISTS**: the char[] at b holds cs, not empty, no char above 255 -/
theorem backArv {p : Program} {l : Launch} {e : Env} {R : Room} {s : State} {args : Array Value} {below : List Frame} {len W : Nat} {Z : State} {a0 : Array Value} {h : Heap} (hZ : Z.Warmed39 s.vm) (hw : ∀ d ∈ words, d.before a0 Z = true) {kI : Nat} (wi : (Jvm.Cond.instantiable ST kI).before a0 Z = true)
    {x b : Addr} {k : ClassId} {zn z : Int32} {cs : List Int32} {dv v0 c0 : Value} (E : RoadKit.Exa Z h x ST) (V : RoadKit.Fld Z h x ST "value" "[B" v0) (C : RoadKit.Fld Z h x ST "coder" "B" c0) (K : RoadKit.Arv Z h b k .char zn (cs.map Value.int) dv) (S : RoadKit.Sta Z h ST "COMPACT_STRINGS" "Z" (.int z)) (hz : ¬ z = 0)
    (hlen : zn.toNatClampNeg = cs.length) (h0 : 0 < cs.length) (hbig : cs.length ≤ 536870912) (hall : ∀ c ∈ cs, ¬ 255 < c) (hfr : 4 ≤ R.frames) (hlo : W + 65 ≤ R.locals) :
    Back l R p e below s args New1.yN len W (fun P a => a = #[.ref x, .ref b] ∧ P.U.heap = h ∧ P.cells + 1 ≤ R.cells ∧ P.slots + cs.length ≤ R.slots)
      (fun P _ v B => ∃ L, QA Z x zn cs h v B.U.heap L ∧ B.locs = P.locs ++ L ∧ B.cells = P.cells + 1 ∧ B.slots = P.slots + cs.length) := by
  obtain ⟨A, K1, K2, K3, K4, K5, K6⟩ := K
  have e : A.slots.size = cs.length := K3.trans hlen
  have hat : ∀ (i : Nat) (hi : i < cs.length), A.slots[i]? = some (.int cs[i]) := fun i hi => by rw [K5 i (by omega)]; simp [List.getD_eq_getElem?_getD, hi]
  have hcv : ∀ (i : Nat) (hi : i < cs.length), cv A i = cs[i] := fun i hi => by unfold cv; rw [hat i hi]
  have hty : Typed .char A := fun i v hv => by
    have hi : i < A.slots.size := (Array.getElem?_eq_some_iff.mp hv).1
    have q := K5 i hi
    rw [hv] at q
    rw [Option.some.inj q]
    exact K6 i hi
  refine Back.mono (back hZ hw wi E V C K1 hty S hz (by omega) (by omega) (fun i hi => by rw [hcv i (by omega)]; exact hall _ (List.getElem_mem _)) hfr hlo) (fun P a hp => ⟨hp.1, hp.2.1, hp.2.2.1, by rw [e]; exact hp.2.2.2⟩) (fun P a v B hp hq => ?_)
  obtain ⟨L, ⟨q1, q2, q3, q4, q5, q6, q7, ⟨V', v1, v2, v3, v4, v5⟩, q9⟩, hl, hc, hs⟩ := hq
  refine ⟨L, ⟨q1, q2, q3, q4, q5, q6, q7, ⟨V'.cls, v3, V', v1, rfl, by rw [v4, e, hlen], K4, fun i hi => ?_, fun i hi => ?_⟩, q9⟩, hl, hc, by rw [hs, e]⟩
  · have hi' : i < cs.length := by omega
    rw [v5 i (by omega), hcv i hi']; simp [List.getD_eq_getElem?_getD, hi']
  · have hi' : i < cs.length := by omega
    simp only [List.getD_eq_getElem?_getD, List.getElem?_map, List.getElem?_eq_getElem hi', Option.map_some, Option.getD_some]
    exact fits_lo8 _
end StrChars.Road
namespace StrChars.Road
open Jvm Sem ClassFile Op Lib Jvm.Stand Jvm.Free Jvm.Free.XT
/-- WHAT COMES BACK, in the writer's own shape -/
def QV (Z : State) (x : Addr) (N : Int32) (bs : List Int32) (h : Heap) (n0 : Nat) (v : Option Value) (h' : Heap) (L : List Loc) : Prop := v = none ∧ RoadKit.Fr n0 L ∧ RoadKit.Keep h h' [x] ∧ RoadKit.Exa Z h' x ST ∧ RoadKit.Fld Z h' x ST "coder" "B" (.int 0) ∧
  ∃ (t : Addr) (kb : ClassId), n0 ≤ t ∧ h.size ≤ t ∧ ¬ t = x ∧ RoadKit.Fld Z h' x ST "value" "[B" (.ref t) ∧ RoadKit.Arv Z h' t kb .byte N (bs.map Value.int) (.int 0)
/-- **new String(chars) AT A CALL, FOR THE WRITER**: a char[] of n known ints, each 0 to 255 -/
theorem backV {p : Program} {l : Launch} {e : Env} {R : Room} {s : State} {args : Array Value} {below : List Frame} {len W : Nat} {Z : State} {a0 : Array Value} {h : Heap} (hZ : Z.Warmed39 s.vm) (hw : ∀ d ∈ words, d.before a0 Z = true) {kI : Nat} (wi : (Jvm.Cond.instantiable ST kI).before a0 Z = true)
    {x b : Addr} {kC : ClassId} {cs bs : List Int32} {d v0 c0 : Value} {z N : Int32} {n n0 : Nat} (hx0 : n0 ≤ x) (hh0 : n0 ≤ h.size) (E : RoadKit.Exa Z h x ST) (V : RoadKit.Fld Z h x ST "value" "[B" v0) (C : RoadKit.Fld Z h x ST "coder" "B" c0) (K : RoadKit.Arv Z h b kC .char N (cs.map Value.int) d) (S : RoadKit.Sta Z h ST "COMPACT_STRINGS" "Z" (.int z)) (hz : ¬ z = 0)
    (hn : cs.length = n) (hN : N = Int32.ofNat n) (l0 : 0 < n) (l2 : n ≤ 4000) (hp : ∀ c ∈ cs, ¬ c < 0 ∧ ¬ (255 : Int32) < c) (hb : bs = cs.map (fun c => c.toInt8.toInt32)) (hfr : 4 ≤ R.frames) (hlo : W + 65 ≤ R.locals) :
    Back l R p e below s args (⟨"java/lang/String", "<init>", "([C)V"⟩ : MethodName) len W (fun P a => a = #[.ref x, .ref b] ∧ P.U.heap = h ∧ P.cells + 1 ≤ R.cells ∧ P.slots + n ≤ R.slots)
      (fun P _ v B => ∃ L, QV Z x N bs h n0 v B.U.heap L ∧ B.locs = P.locs ++ L ∧ B.cells = P.cells + 1 ∧ B.slots = P.slots + n) := by
  subst hn hN hb
  refine Back.mono (backArv hZ hw wi E V C K S hz (n32 (by omega)) l0 (by omega) (fun c hc => (hp c hc).2) hfr hlo) (fun P a hp => hp) (fun P a v B hp hq => ?_)
  obtain ⟨L, ⟨q1, q2, q3, q4, q5, q6, q7, ⟨kb, v1, v2⟩, q9⟩, hl, hc, hs⟩ := hq
  exact ⟨L, ⟨q1, fun y hy => by rw [q2 y hy]; exact hx0, q3, q5, q7, h.size, kb, hh0, Nat.le_refl _, Nat.ne_of_gt E.lt, q6, by rw [List.map_map]; exact v2⟩, hl, hc, hs⟩
end StrChars.Road
end Jvm.Pilot.@@N@@
namespace Jvm.Pilot.@@N@@
open Jvm Jvm.ClassFile Sem Op Lib Jvm.Free Jvm.Stand Jvm.LawKit Jvm.RoadKit Bundle Jvm.Pilot.@@N@@.Jvm.D
/-- from t the run comes to an end of which P holds -/
def Goes (tb : Tables) (e : Env) (below : List Frame) (P : Outcome → State → Prop) (t : State) : Prop := ∃ s₂ o, Steps tb e below t s₂ ∧ s₂.status = .running ∧ Ended s₂ below o ∧ P o s₂
theorem Goes.on {tb : Tables} {e : Env} {below : List Frame} {P : Outcome → State → Prop} {t t' : State} (h : ∀ target, Steps tb e below t' target → Steps tb e below t target) (k : Goes tb e below P t') : Goes tb e below P t := by
  obtain ⟨s₂, o, h1, h2⟩ := k
  exact ⟨s₂, o, h _ h1, h2⟩
theorem Goes.to {tb : Tables} {e : Env} {below : List Frame} {P : Outcome → State → Prop} {t t' : State} (h : Steps tb e below t t') (k : Goes tb e below P t') : Goes tb e below P t := k.on fun _ q => h.trans q
/-- what a body's end says -/
def Ends (s : State) (Q : Option Value → Heap → List Loc → Prop) (C S : Nat) (o : Outcome) (U : State) : Prop := ∃ v L, o = .returned v ∧ Q v U.heap L ∧ FrameEnd s o U L C S
/-- a body's contract -/
def Met (l : Launch) (Z : State) (y : MethodName) (bytes : ByteArray) (maxL : Nat) (ret : Option FieldType) (rm : Room) (ws : List Jvm.Cond) (as' : Array Value) (h0 : Heap) (Q : Option Value → Heap → List Loc → Prop) : Prop :=
  MetFree l y (head1 (Jvm.Cond.code y bytes maxL ret :: ws) rm) (fun a U => a = as' ∧ Z.Warmed39 U.vm ∧ U.heap = h0) (fun _ _ _ _ _ => True) (fun _ U o U' => ∃ v L, o = .returned v ∧ Q v U'.heap L ∧ FrameEnd U o U' L rm.cells rm.slots)
section Own
variable {p : Program} {l : Launch} {e : Env} {R : Room} {s : State} {m : MethodId} {args : Array Value} {below : List Frame} {meth : Method} {c : Code} {T : State} {locs : List Loc} {cells slots cells' slots' : Nat} {Z : State} {a0 : Array Value} {h : Heap} {P : Outcome → State → Prop} {pc pc' : Nat} {L L' : Array Slot} {S : List Value}
theorem met_of {y : MethodName} {bytes : ByteArray} {maxL : Nat} {ret : Option FieldType} {rm : Room} {ws : List Jvm.Cond} {as' : Array Value} {h0 : Heap} {Q : Option Value → Heap → List Loc → Prop} {L0 : Array Slot}
    (hpn : plainFor y = true) (hef : ∀ m, entryFrame m as' maxL = mkF m 0 L0 [])
    (body : ∀ (p : Program) (e : Env) (s : State) (m : MethodId) (below : List Frame) (meth : Method) (c : Code) (T : State), p.tables.exec = Jvm.exec → c.code = bytes → c.maxLocals = maxL → s.vm.findClass y.cls = some m.cls → meth.name = y.name → meth.sig.returnType = ret → meth.locks = false → Z.Warmed39 s.vm → Stand p l e rm s m as' below meth c T [] 0 0 → T.heap = h0 → Goes p.tables e below (Ends s Q rm.cells rm.slots) (T.setTop (mkF m 0 L0 []))) :
    Met l Z y bytes maxL ret rm ws as' h0 Q := by
  refine MetFree.of_bodySF hpn hisR ?_
  intro p e s m args below meth c s₁ Bd hml0 hP hK
  obtain ⟨rfl, hZ, hh⟩ := hP
  have e0 : s₁.heap = h0 := by rw [← hh, Bd.state]; rfl
  obtain ⟨s₂, o, h1, h2, h3, h4⟩ := body p e s m below meth c s₁ Bd.exec Bd.bytes hml0 (findClass_of_methodNamed Bd.named) (name_of_methodNamed Bd.named Bd.method).1 Bd.returns (BodyLoose.notSynchronized Bd) hZ (Stand.of_body Bd) e0
  exact ⟨s₂, o, castTop (hef m) h1, h2, h3, h4⟩
theorem o_cat {v : Value} (h : v.isRef = true) : v.category = 1 := by rcases ref_cases h with rfl | ⟨a, rfl⟩ <;> rfl
theorem o_nar {C : String} {v : Value} (h : v.isRef = true) : narrow (.object C) v = v := by rcases ref_cases h with rfl | ⟨a, rfl⟩ <;> rfl
theorem o_fit {C : String} {v : Value} (h : v.isRef = true) : fits (.object C) v = true := by rcases ref_cases h with rfl | ⟨a, rfl⟩ <;> rfl
theorem o_nar01 {z : Int32} (h : z = 0 ∨ z = 1) : narrow .boolean (.int z) = .int z := by rcases h with rfl | rfl <;> rfl
theorem o_fit01 {z : Int32} (h : z = 0 ∨ z = 1) : fits .boolean (.int z) = true := by rcases h with rfl | rfl <;> rfl
theorem o_ret (X : Stand p l e R s m args below meth c T locs cells slots) (hx : p.tables.exec = Jvm.exec) (hlk : meth.locks = false) {w : Value} {t : FieldType} {i : Instr} {Q : Option Value → Heap → List Loc → Prop} {C Sl : Nat} (hret : meth.sig.returnType = some t) (hn : narrow t w = w)
    (hi : (i = .ireturn ∧ (t = .int ∨ t = .boolean ∨ t = .byte ∨ t = .char ∨ t = .short) ∧ ∃ z, w = .int z) ∨ (i = .lreturn ∧ t = .long ∧ ∃ z, w = .long z) ∨ (i = .dreturn ∧ t = .double ∧ ∃ z, w = .double z) ∨ (i = .freturn ∧ t = .float ∧ ∃ z, w = .float z) ∨ (i = .areturn ∧ t.isReference = true ∧ w.isRef = true))
    (hd : decode c.code pc = .ok (i, 1)) (hC : cells ≤ C) (hS : slots ≤ Sl) (eT : T.heap = h) (hq : Q (some w) h locs) : Goes p.tables e below (Ends s Q C Sl) (T.setTop (mkF m pc L (w :: S))) := by
  subst eT
  obtain ⟨fs, hr, hrun, hended, hW, hsame⟩ := X.leave (v := some w) (fun h => by rw [hret] at h; cases h) hlk
  exact ⟨_, _, retOut X hx hret hn hi hd hr, hrun, hended, _, _, rfl, hq, ⟨_, rfl⟩, hW, hsame.mono hC hS⟩
theorem o_retV (X : Stand p l e R s m args below meth c T locs cells slots) (hx : p.tables.exec = Jvm.exec) (hlk : meth.locks = false) {Q : Option Value → Heap → List Loc → Prop} {C Sl : Nat} (hret : meth.sig.returnType = none) (hd : decode c.code pc = .ok (.return_, 1)) (hC : cells ≤ C) (hS : slots ≤ Sl) (eT : T.heap = h) (hq : Q none h locs) :
    Goes p.tables e below (Ends s Q C Sl) (T.setTop (mkF m pc L [])) := by
  subst eT
  obtain ⟨fs, hr, hrun, hended, hW, hsame⟩ := X.leave (v := none) (fun _ => rfl) hlk
  exact ⟨_, _, X.returnOut hx hret hd hr, hrun, hended, _, _, rfl, hq, ⟨_, rfl⟩, hW, hsame.mono hC hS⟩
theorem o_iloadN (X : Stand p l e R s m args below meth c T locs cells slots) (hx : p.tables.exec = Jvm.exec) {k : Fin 4} {v : Int32} (hd : decode c.code pc = .ok (.iload_n k, 1)) (hl : L[k.val]? = some (.val (.int v))) (hp : pc + 1 = pc') (kk : Goes p.tables e below P (T.setTop (mkF m pc' L (.int v :: S)))) : Goes p.tables e below P (T.setTop (mkF m pc L S)) := by
  subst hp; exact kk.on fun _ k => XS.iloadN X.here hx rfl hd hl k
theorem o_iload (X : Stand p l e R s m args below meth c T locs cells slots) (hx : p.tables.exec = Jvm.exec) {k : Nat} {v : Int32} (hd : decode c.code pc = .ok (.iload k, 2)) (hl : L[k]? = some (.val (.int v))) (hp : pc + 2 = pc') (kk : Goes p.tables e below P (T.setTop (mkF m pc' L (.int v :: S)))) : Goes p.tables e below P (T.setTop (mkF m pc L S)) := by
  subst hp; exact kk.on fun _ k => XS.iload X.here hx rfl hd hl k
theorem o_istoreN (X : Stand p l e R s m args below meth c T locs cells slots) (hx : p.tables.exec = Jvm.exec) {k : Fin 4} {x : Int32} (hd : decode c.code pc = .ok (.istore_n k, 1)) (hl : storeLocals L k.val (.int x) = some L') (hp : pc + 1 = pc') (kk : Goes p.tables e below P (T.setTop (mkF m pc' L' S))) : Goes p.tables e below P (T.setTop (mkF m pc L (.int x :: S))) := by
  subst hp; exact kk.on fun _ k => XS.istoreN X.here hx rfl hd rfl hl k
theorem o_istore (X : Stand p l e R s m args below meth c T locs cells slots) (hx : p.tables.exec = Jvm.exec) {k : Nat} {x : Int32} (hd : decode c.code pc = .ok (.istore k, 2)) (hl : storeLocals L k (.int x) = some L') (hp : pc + 2 = pc') (kk : Goes p.tables e below P (T.setTop (mkF m pc' L' S))) : Goes p.tables e below P (T.setTop (mkF m pc L (.int x :: S))) := by
  subst hp; exact kk.on fun _ k => XS.istore X.here hx rfl hd rfl hl k
theorem o_lloadN (X : Stand p l e R s m args below meth c T locs cells slots) (hx : p.tables.exec = Jvm.exec) {k : Fin 4} {v : Int64} (hd : decode c.code pc = .ok (.lload_n k, 1)) (hl : L[k.val]? = some (.val (.long v))) (hp : pc + 1 = pc') (kk : Goes p.tables e below P (T.setTop (mkF m pc' L (.long v :: S)))) : Goes p.tables e below P (T.setTop (mkF m pc L S)) := by
  subst hp; exact kk.on fun _ k => XS.lloadN X.here hx rfl hd hl k
theorem o_lload (X : Stand p l e R s m args below meth c T locs cells slots) (hx : p.tables.exec = Jvm.exec) {k : Nat} {v : Int64} (hd : decode c.code pc = .ok (.lload k, 2)) (hl : L[k]? = some (.val (.long v))) (hp : pc + 2 = pc') (kk : Goes p.tables e below P (T.setTop (mkF m pc' L (.long v :: S)))) : Goes p.tables e below P (T.setTop (mkF m pc L S)) := by
  subst hp; exact kk.on fun _ k => XS.lload X.here hx rfl hd hl k
theorem o_lstoreN (X : Stand p l e R s m args below meth c T locs cells slots) (hx : p.tables.exec = Jvm.exec) {k : Fin 4} {x : Int64} (hd : decode c.code pc = .ok (.lstore_n k, 1)) (hl : storeLocals L k.val (.long x) = some L') (hp : pc + 1 = pc') (kk : Goes p.tables e below P (T.setTop (mkF m pc' L' S))) : Goes p.tables e below P (T.setTop (mkF m pc L (.long x :: S))) := by
  subst hp; exact kk.on fun _ k => XS.lstoreN X.here hx rfl hd rfl hl k
theorem o_lstore (X : Stand p l e R s m args below meth c T locs cells slots) (hx : p.tables.exec = Jvm.exec) {k : Nat} {x : Int64} (hd : decode c.code pc = .ok (.lstore k, 2)) (hl : storeLocals L k (.long x) = some L') (hp : pc + 2 = pc') (kk : Goes p.tables e below P (T.setTop (mkF m pc' L' S))) : Goes p.tables e below P (T.setTop (mkF m pc L (.long x :: S))) := by
  subst hp; exact kk.on fun _ k => XS.lstore X.here hx rfl hd rfl hl k
theorem o_aloadN (X : Stand p l e R s m args below meth c T locs cells slots) (hx : p.tables.exec = Jvm.exec) {k : Fin 4} {v : Value} (hd : decode c.code pc = .ok (.aload_n k, 1)) (hl : L[k.val]? = some (.val v)) (hv : v.isRef = true) (hp : pc + 1 = pc') (kk : Goes p.tables e below P (T.setTop (mkF m pc' L (v :: S)))) : Goes p.tables e below P (T.setTop (mkF m pc L S)) := by
  subst hp; exact kk.on fun _ k => XS.aloadN X.here hx rfl hd hl hv k
theorem o_aload (X : Stand p l e R s m args below meth c T locs cells slots) (hx : p.tables.exec = Jvm.exec) {k : Nat} {v : Value} (hd : decode c.code pc = .ok (.aload k, 2)) (hl : L[k]? = some (.val v)) (hv : v.isRef = true) (hp : pc + 2 = pc') (kk : Goes p.tables e below P (T.setTop (mkF m pc' L (v :: S)))) : Goes p.tables e below P (T.setTop (mkF m pc L S)) := by
  subst hp; exact kk.on fun _ k => XS.aload X.here hx rfl hd hl hv k
theorem o_astoreN (X : Stand p l e R s m args below meth c T locs cells slots) (hx : p.tables.exec = Jvm.exec) {k : Fin 4} {x : Value} (hd : decode c.code pc = .ok (.astore_n k, 1)) (hv : x.isRef = true) (hl : storeLocals L k.val x = some L') (hp : pc + 1 = pc') (kk : Goes p.tables e below P (T.setTop (mkF m pc' L' S))) : Goes p.tables e below P (T.setTop (mkF m pc L (x :: S))) := by
  subst hp; exact kk.on fun _ k => XS.astoreN X.here hx rfl hd rfl hv hl k
theorem o_astore (X : Stand p l e R s m args below meth c T locs cells slots) (hx : p.tables.exec = Jvm.exec) {k : Nat} {x : Value} (hd : decode c.code pc = .ok (.astore k, 2)) (hv : x.isRef = true) (hl : storeLocals L k x = some L') (hp : pc + 2 = pc') (kk : Goes p.tables e below P (T.setTop (mkF m pc' L' S))) : Goes p.tables e below P (T.setTop (mkF m pc L (x :: S))) := by
  subst hp; exact kk.on fun _ k => XS.astore X.here hx rfl hd rfl hv hl k
theorem o_iconst (X : Stand p l e R s m args below meth c T locs cells slots) (hx : p.tables.exec = Jvm.exec) {i : Int} {v : Int32} (hd : decode c.code pc = .ok (.iconst i, 1)) (hv : Int32.ofInt i = v) (hp : pc + 1 = pc') (kk : Goes p.tables e below P (T.setTop (mkF m pc' L (.int v :: S)))) : Goes p.tables e below P (T.setTop (mkF m pc L S)) := by
  subst hp; subst hv; exact kk.on fun _ k => XS.iconst X.here hx rfl hd  k
theorem o_bipush (X : Stand p l e R s m args below meth c T locs cells slots) (hx : p.tables.exec = Jvm.exec) {i : Int} {v : Int32} (hd : decode c.code pc = .ok (.bipush i, 2)) (hv : (Int8.ofInt i).toInt32 = v) (hp : pc + 2 = pc') (kk : Goes p.tables e below P (T.setTop (mkF m pc' L (.int v :: S)))) : Goes p.tables e below P (T.setTop (mkF m pc L S)) := by
  subst hp; subst hv; exact kk.on fun _ k => XS.bipush X.here hx rfl hd  k
theorem o_sipush (X : Stand p l e R s m args below meth c T locs cells slots) (hx : p.tables.exec = Jvm.exec) {i : Int} {v : Int32} (hd : decode c.code pc = .ok (.sipush i, 3)) (hv : (Int16.ofInt i).toInt32 = v) (hp : pc + 3 = pc') (kk : Goes p.tables e below P (T.setTop (mkF m pc' L (.int v :: S)))) : Goes p.tables e below P (T.setTop (mkF m pc L S)) := by
  subst hp; subst hv; exact kk.on fun _ k => XS.sipush X.here hx rfl hd  k
theorem o_lconst (X : Stand p l e R s m args below meth c T locs cells slots) (hx : p.tables.exec = Jvm.exec) {k : Fin 2} {v : Int64} (hd : decode c.code pc = .ok (.lconst k, 1)) (hv : Int64.ofNat k = v) (hp : pc + 1 = pc') (kk : Goes p.tables e below P (T.setTop (mkF m pc' L (.long v :: S)))) : Goes p.tables e below P (T.setTop (mkF m pc L S)) := by
  subst hp; subst hv; exact kk.on fun _ k => XS.lconst X.here hx rfl hd  k
theorem o_aconstNull (X : Stand p l e R s m args below meth c T locs cells slots) (hx : p.tables.exec = Jvm.exec)  (hd : decode c.code pc = .ok (.aconst_null, 1)) (hp : pc + 1 = pc') (kk : Goes p.tables e below P (T.setTop (mkF m pc' L (.null :: S)))) : Goes p.tables e below P (T.setTop (mkF m pc L S)) := by
  subst hp; exact kk.on fun _ k => XS.aconstNull X.here hx rfl hd  k
theorem o_iadd (X : Stand p l e R s m args below meth c T locs cells slots) (hx : p.tables.exec = Jvm.exec) {x y : Int32} (hd : decode c.code pc = .ok (.iadd, 1)) (hp : pc + 1 = pc') (kk : Goes p.tables e below P (T.setTop (mkF m pc' L (.int (x + y) :: S)))) : Goes p.tables e below P (T.setTop (mkF m pc L (.int y :: .int x :: S))) := by
  subst hp; exact kk.on fun _ k => XS.iadd X.here hx rfl hd rfl k
theorem o_isub (X : Stand p l e R s m args below meth c T locs cells slots) (hx : p.tables.exec = Jvm.exec) {x y : Int32} (hd : decode c.code pc = .ok (.isub, 1)) (hp : pc + 1 = pc') (kk : Goes p.tables e below P (T.setTop (mkF m pc' L (.int (x - y) :: S)))) : Goes p.tables e below P (T.setTop (mkF m pc L (.int y :: .int x :: S))) := by
  subst hp; exact kk.on fun _ k => XS.isub X.here hx rfl hd rfl k
theorem o_imul (X : Stand p l e R s m args below meth c T locs cells slots) (hx : p.tables.exec = Jvm.exec) {x y : Int32} (hd : decode c.code pc = .ok (.imul, 1)) (hp : pc + 1 = pc') (kk : Goes p.tables e below P (T.setTop (mkF m pc' L (.int (x * y) :: S)))) : Goes p.tables e below P (T.setTop (mkF m pc L (.int y :: .int x :: S))) := by
  subst hp; exact kk.on fun _ k => XS.imul X.here hx rfl hd rfl k
theorem o_iand (X : Stand p l e R s m args below meth c T locs cells slots) (hx : p.tables.exec = Jvm.exec) {x y : Int32} (hd : decode c.code pc = .ok (.iand, 1)) (hp : pc + 1 = pc') (kk : Goes p.tables e below P (T.setTop (mkF m pc' L (.int (x &&& y) :: S)))) : Goes p.tables e below P (T.setTop (mkF m pc L (.int y :: .int x :: S))) := by
  subst hp; exact kk.on fun _ k => XS.iand X.here hx rfl hd rfl k
theorem o_ior (X : Stand p l e R s m args below meth c T locs cells slots) (hx : p.tables.exec = Jvm.exec) {x y : Int32} (hd : decode c.code pc = .ok (.ior, 1)) (hp : pc + 1 = pc') (kk : Goes p.tables e below P (T.setTop (mkF m pc' L (.int (x ||| y) :: S)))) : Goes p.tables e below P (T.setTop (mkF m pc L (.int y :: .int x :: S))) := by
  subst hp; exact kk.on fun _ k => XS.ior X.here hx rfl hd rfl k
theorem o_ixor (X : Stand p l e R s m args below meth c T locs cells slots) (hx : p.tables.exec = Jvm.exec) {x y : Int32} (hd : decode c.code pc = .ok (.ixor, 1)) (hp : pc + 1 = pc') (kk : Goes p.tables e below P (T.setTop (mkF m pc' L (.int (x ^^^ y) :: S)))) : Goes p.tables e below P (T.setTop (mkF m pc L (.int y :: .int x :: S))) := by
  subst hp; exact kk.on fun _ k => XS.ixor X.here hx rfl hd rfl k
theorem o_ishl (X : Stand p l e R s m args below meth c T locs cells slots) (hx : p.tables.exec = Jvm.exec) {x y : Int32} (hd : decode c.code pc = .ok (.ishl, 1)) (hp : pc + 1 = pc') (kk : Goes p.tables e below P (T.setTop (mkF m pc' L (.int (x <<< (y &&& 31)) :: S)))) : Goes p.tables e below P (T.setTop (mkF m pc L (.int y :: .int x :: S))) := by
  subst hp; exact kk.on fun _ k => XS.ishl X.here hx rfl hd rfl k
theorem o_ishr (X : Stand p l e R s m args below meth c T locs cells slots) (hx : p.tables.exec = Jvm.exec) {x y : Int32} (hd : decode c.code pc = .ok (.ishr, 1)) (hp : pc + 1 = pc') (kk : Goes p.tables e below P (T.setTop (mkF m pc' L (.int (x >>> (y &&& 31)) :: S)))) : Goes p.tables e below P (T.setTop (mkF m pc L (.int y :: .int x :: S))) := by
  subst hp; exact kk.on fun _ k => XS.ishr X.here hx rfl hd rfl k
theorem o_iushr (X : Stand p l e R s m args below meth c T locs cells slots) (hx : p.tables.exec = Jvm.exec) {x y : Int32} (hd : decode c.code pc = .ok (.iushr, 1)) (hp : pc + 1 = pc') (kk : Goes p.tables e below P (T.setTop (mkF m pc' L (.int ((x.toUInt32 >>> (y &&& 31).toUInt32).toInt32) :: S)))) : Goes p.tables e below P (T.setTop (mkF m pc L (.int y :: .int x :: S))) := by
  subst hp; exact kk.on fun _ k => XS.iushr X.here hx rfl hd rfl k
theorem o_ladd (X : Stand p l e R s m args below meth c T locs cells slots) (hx : p.tables.exec = Jvm.exec) {x y : Int64} (hd : decode c.code pc = .ok (.ladd, 1)) (hp : pc + 1 = pc') (kk : Goes p.tables e below P (T.setTop (mkF m pc' L (.long (x + y) :: S)))) : Goes p.tables e below P (T.setTop (mkF m pc L (.long y :: .long x :: S))) := by
  subst hp; exact kk.on fun _ k => XS.ladd X.here hx rfl hd rfl k
theorem o_lsub (X : Stand p l e R s m args below meth c T locs cells slots) (hx : p.tables.exec = Jvm.exec) {x y : Int64} (hd : decode c.code pc = .ok (.lsub, 1)) (hp : pc + 1 = pc') (kk : Goes p.tables e below P (T.setTop (mkF m pc' L (.long (x - y) :: S)))) : Goes p.tables e below P (T.setTop (mkF m pc L (.long y :: .long x :: S))) := by
  subst hp; exact kk.on fun _ k => XS.lsub X.here hx rfl hd rfl k
theorem o_lmul (X : Stand p l e R s m args below meth c T locs cells slots) (hx : p.tables.exec = Jvm.exec) {x y : Int64} (hd : decode c.code pc = .ok (.lmul, 1)) (hp : pc + 1 = pc') (kk : Goes p.tables e below P (T.setTop (mkF m pc' L (.long (x * y) :: S)))) : Goes p.tables e below P (T.setTop (mkF m pc L (.long y :: .long x :: S))) := by
  subst hp; exact kk.on fun _ k => XS.lmul X.here hx rfl hd rfl k
theorem o_land (X : Stand p l e R s m args below meth c T locs cells slots) (hx : p.tables.exec = Jvm.exec) {x y : Int64} (hd : decode c.code pc = .ok (.land, 1)) (hp : pc + 1 = pc') (kk : Goes p.tables e below P (T.setTop (mkF m pc' L (.long (x &&& y) :: S)))) : Goes p.tables e below P (T.setTop (mkF m pc L (.long y :: .long x :: S))) := by
  subst hp; exact kk.on fun _ k => XS.land X.here hx rfl hd rfl k
theorem o_lor (X : Stand p l e R s m args below meth c T locs cells slots) (hx : p.tables.exec = Jvm.exec) {x y : Int64} (hd : decode c.code pc = .ok (.lor, 1)) (hp : pc + 1 = pc') (kk : Goes p.tables e below P (T.setTop (mkF m pc' L (.long (x ||| y) :: S)))) : Goes p.tables e below P (T.setTop (mkF m pc L (.long y :: .long x :: S))) := by
  subst hp; exact kk.on fun _ k => XS.lor X.here hx rfl hd rfl k
theorem o_lxor (X : Stand p l e R s m args below meth c T locs cells slots) (hx : p.tables.exec = Jvm.exec) {x y : Int64} (hd : decode c.code pc = .ok (.lxor, 1)) (hp : pc + 1 = pc') (kk : Goes p.tables e below P (T.setTop (mkF m pc' L (.long (x ^^^ y) :: S)))) : Goes p.tables e below P (T.setTop (mkF m pc L (.long y :: .long x :: S))) := by
  subst hp; exact kk.on fun _ k => XS.lxor X.here hx rfl hd rfl k
theorem o_lshl (X : Stand p l e R s m args below meth c T locs cells slots) (hx : p.tables.exec = Jvm.exec) {x : Int64} {y : Int32} (hd : decode c.code pc = .ok (.lshl, 1)) (hp : pc + 1 = pc') (kk : Goes p.tables e below P (T.setTop (mkF m pc' L (.long (x <<< (y &&& 0x3f).toInt64) :: S)))) : Goes p.tables e below P (T.setTop (mkF m pc L (.int y :: .long x :: S))) := by
  subst hp; exact kk.on fun _ k => XS.lshl X.here hx rfl hd rfl k
theorem o_lshr (X : Stand p l e R s m args below meth c T locs cells slots) (hx : p.tables.exec = Jvm.exec) {x : Int64} {y : Int32} (hd : decode c.code pc = .ok (.lshr, 1)) (hp : pc + 1 = pc') (kk : Goes p.tables e below P (T.setTop (mkF m pc' L (.long (x >>> (y &&& 0x3f).toInt64) :: S)))) : Goes p.tables e below P (T.setTop (mkF m pc L (.int y :: .long x :: S))) := by
  subst hp; exact kk.on fun _ k => XS.lshr X.here hx rfl hd rfl k
theorem o_lushr (X : Stand p l e R s m args below meth c T locs cells slots) (hx : p.tables.exec = Jvm.exec) {x : Int64} {y : Int32} (hd : decode c.code pc = .ok (.lushr, 1)) (hp : pc + 1 = pc') (kk : Goes p.tables e below P (T.setTop (mkF m pc' L (.long ((x.toUInt64 >>> (y &&& 0x3f).toInt64.toUInt64).toInt64) :: S)))) : Goes p.tables e below P (T.setTop (mkF m pc L (.int y :: .long x :: S))) := by
  subst hp; exact kk.on fun _ k => XS.lushr X.here hx rfl hd rfl k
theorem o_idiv (X : Stand p l e R s m args below meth c T locs cells slots) (hx : p.tables.exec = Jvm.exec) {x y : Int32} (hd : decode c.code pc = .ok (.idiv, 1)) (hy : y ≠ 0) (hp : pc + 1 = pc') (kk : Goes p.tables e below P (T.setTop (mkF m pc' L (.int (x / y) :: S)))) : Goes p.tables e below P (T.setTop (mkF m pc L (.int y :: .int x :: S))) := by
  subst hp; exact kk.on fun _ k => XS.idiv X.here hx rfl hd rfl hy k
theorem o_ldiv (X : Stand p l e R s m args below meth c T locs cells slots) (hx : p.tables.exec = Jvm.exec) {x y : Int64} (hd : decode c.code pc = .ok (.ldiv, 1)) (hy : y ≠ 0) (hp : pc + 1 = pc') (kk : Goes p.tables e below P (T.setTop (mkF m pc' L (.long (x / y) :: S)))) : Goes p.tables e below P (T.setTop (mkF m pc L (.long y :: .long x :: S))) := by
  subst hp; exact kk.on fun _ k => XS.ldiv X.here hx rfl hd rfl hy k
theorem o_lrem (X : Stand p l e R s m args below meth c T locs cells slots) (hx : p.tables.exec = Jvm.exec) {x y : Int64} (hd : decode c.code pc = .ok (.lrem, 1)) (hy : y ≠ 0) (hp : pc + 1 = pc') (kk : Goes p.tables e below P (T.setTop (mkF m pc' L (.long (x - (x / y) * y) :: S)))) : Goes p.tables e below P (T.setTop (mkF m pc L (.long y :: .long x :: S))) := by
  subst hp; exact kk.on fun _ k => XS.lrem X.here hx rfl hd rfl hy k
theorem o_irem (X : Stand p l e R s m args below meth c T locs cells slots) (hx : p.tables.exec = Jvm.exec) {x y : Int32} (hd : decode c.code pc = .ok (.irem, 1)) (hy : y ≠ 0) (hp : pc + 1 = pc') (kk : Goes p.tables e below P (T.setTop (mkF m pc' L (.int (x % y) :: S)))) : Goes p.tables e below P (T.setTop (mkF m pc L (.int y :: .int x :: S))) := by
  subst hp; exact kk.on fun _ k => iremM X hx rfl hd rfl hy k
theorem o_i2l (X : Stand p l e R s m args below meth c T locs cells slots) (hx : p.tables.exec = Jvm.exec) {x : Int32} (hd : decode c.code pc = .ok (.i2l, 1)) (hp : pc + 1 = pc') (kk : Goes p.tables e below P (T.setTop (mkF m pc' L (.long (x.toInt64) :: S)))) : Goes p.tables e below P (T.setTop (mkF m pc L (.int x :: S))) := by
  subst hp; exact kk.on fun _ k => XS.i2l X.here hx rfl hd rfl k
theorem o_l2i (X : Stand p l e R s m args below meth c T locs cells slots) (hx : p.tables.exec = Jvm.exec) {x : Int64} (hd : decode c.code pc = .ok (.l2i, 1)) (hp : pc + 1 = pc') (kk : Goes p.tables e below P (T.setTop (mkF m pc' L (.int (x.toInt32) :: S)))) : Goes p.tables e below P (T.setTop (mkF m pc L (.long x :: S))) := by
  subst hp; exact kk.on fun _ k => XS.l2i X.here hx rfl hd rfl k
theorem o_i2b (X : Stand p l e R s m args below meth c T locs cells slots) (hx : p.tables.exec = Jvm.exec) {x : Int32} (hd : decode c.code pc = .ok (.i2b, 1)) (hp : pc + 1 = pc') (kk : Goes p.tables e below P (T.setTop (mkF m pc' L (.int (x.toInt8.toInt32) :: S)))) : Goes p.tables e below P (T.setTop (mkF m pc L (.int x :: S))) := by
  subst hp; exact kk.on fun _ k => XS.i2b X.here hx rfl hd rfl k
theorem o_i2s (X : Stand p l e R s m args below meth c T locs cells slots) (hx : p.tables.exec = Jvm.exec) {x : Int32} (hd : decode c.code pc = .ok (.i2s, 1)) (hp : pc + 1 = pc') (kk : Goes p.tables e below P (T.setTop (mkF m pc' L (.int (x.toInt16.toInt32) :: S)))) : Goes p.tables e below P (T.setTop (mkF m pc L (.int x :: S))) := by
  subst hp; exact kk.on fun _ k => XS.i2s X.here hx rfl hd rfl k
theorem o_i2c (X : Stand p l e R s m args below meth c T locs cells slots) (hx : p.tables.exec = Jvm.exec) {x : Int32} (hd : decode c.code pc = .ok (.i2c, 1)) (hp : pc + 1 = pc') (kk : Goes p.tables e below P (T.setTop (mkF m pc' L (.int (x.toUInt32.toUInt16.toUInt32.toInt32) :: S)))) : Goes p.tables e below P (T.setTop (mkF m pc L (.int x :: S))) := by
  subst hp; exact kk.on fun _ k => XS.i2c X.here hx rfl hd rfl k
theorem o_ineg (X : Stand p l e R s m args below meth c T locs cells slots) (hx : p.tables.exec = Jvm.exec) {x : Int32} (hd : decode c.code pc = .ok (.ineg, 1)) (hp : pc + 1 = pc') (kk : Goes p.tables e below P (T.setTop (mkF m pc' L (.int (-x) :: S)))) : Goes p.tables e below P (T.setTop (mkF m pc L (.int x :: S))) := by
  subst hp; exact kk.on fun _ k => XS.ineg X.here hx rfl hd rfl k
theorem o_lneg (X : Stand p l e R s m args below meth c T locs cells slots) (hx : p.tables.exec = Jvm.exec) {x : Int64} (hd : decode c.code pc = .ok (.lneg, 1)) (hp : pc + 1 = pc') (kk : Goes p.tables e below P (T.setTop (mkF m pc' L (.long (-x) :: S)))) : Goes p.tables e below P (T.setTop (mkF m pc L (.long x :: S))) := by
  subst hp; exact kk.on fun _ k => XS.lneg X.here hx rfl hd rfl k
theorem o_lcmp (X : Stand p l e R s m args below meth c T locs cells slots) (hx : p.tables.exec = Jvm.exec) {x y : Int64} (hd : decode c.code pc = .ok (.lcmp, 1)) (hp : pc + 1 = pc') (kk : Goes p.tables e below P (T.setTop (mkF m pc' L (.int (lcmpW x y) :: S)))) : Goes p.tables e below P (T.setTop (mkF m pc L (.long y :: .long x :: S))) := by
  subst hp; exact kk.on fun _ k => XS.lcmp X.here hx rfl hd rfl k
theorem o_dup (X : Stand p l e R s m args below meth c T locs cells slots) (hx : p.tables.exec = Jvm.exec) {x : Value} (hd : decode c.code pc = .ok (.dup, 1)) (hc : x.category = 1) (hp : pc + 1 = pc') (kk : Goes p.tables e below P (T.setTop (mkF m pc' L (x :: x :: S)))) : Goes p.tables e below P (T.setTop (mkF m pc L (x :: S))) := by
  subst hp; exact kk.on fun _ k => XS.dup X.here hx rfl hd rfl hc k
theorem o_pop (X : Stand p l e R s m args below meth c T locs cells slots) (hx : p.tables.exec = Jvm.exec) {x : Value} (hd : decode c.code pc = .ok (.pop, 1)) (hc : x.category = 1) (hp : pc + 1 = pc') (kk : Goes p.tables e below P (T.setTop (mkF m pc' L S))) : Goes p.tables e below P (T.setTop (mkF m pc L (x :: S))) := by
  subst hp; exact kk.on fun _ k => XS.pop X.here hx rfl hd rfl hc k
theorem o_dupX1 (X : Stand p l e R s m args below meth c T locs cells slots) (hx : p.tables.exec = Jvm.exec) {x y : Value} (hd : decode c.code pc = .ok (.dup_x1, 1)) (hc : x.category = 1) (hc2 : y.category = 1) (hp : pc + 1 = pc') (kk : Goes p.tables e below P (T.setTop (mkF m pc' L (x :: y :: x :: S)))) : Goes p.tables e below P (T.setTop (mkF m pc L (x :: y :: S))) := by
  subst hp; exact kk.on fun _ k => XS.dupX1 X.here hx rfl hd rfl hc hc2 k
theorem o_iinc (X : Stand p l e R s m args below meth c T locs cells slots) (hx : p.tables.exec = Jvm.exec) {k : Nat} {cst : Int} {x v : Int32} (hd : decode c.code pc = .ok (.iinc k cst, 3)) (hl : L[k]? = some (.val (.int x))) (hv : x + Int32.ofInt cst = v) (hl' : storeLocals L k (.int v) = some L') (hp : pc + 3 = pc') (kk : Goes p.tables e below P (T.setTop (mkF m pc' L' S))) : Goes p.tables e below P (T.setTop (mkF m pc L S)) := by
  subst hp; subst hv; exact kk.on fun _ k => XS.iinc X.here hx rfl hd hl hl' k
theorem o_goto (X : Stand p l e R s m args below meth c T locs cells slots) (hx : p.tables.exec = Jvm.exec)  {o : Int} (hd : decode c.code pc = .ok (.goto o, 3)) (ho : 0 ≤ (pc : Int) + o) (hp : ((pc : Int) + o).toNat = pc') (kk : Goes p.tables e below P (T.setTop (mkF m pc' L S))) : Goes p.tables e below P (T.setTop (mkF m pc L S)) :=
  kk.on fun _ k => XS.goto X.here hx rfl (pc0 := pc) rfl hd  ho hp k
theorem o_ifYes (X : Stand p l e R s m args below meth c T locs cells slots) (hx : p.tables.exec = Jvm.exec) {cd : ClassFile.Cond} {x : Int32} {o : Int} (hd : decode c.code pc = .ok (.ifCond cd o, 3)) (hc : ifCond.holds cd x = true) (ho : 0 ≤ (pc : Int) + o) (hp : ((pc : Int) + o).toNat = pc') (kk : Goes p.tables e below P (T.setTop (mkF m pc' L S))) : Goes p.tables e below P (T.setTop (mkF m pc L (.int x :: S))) :=
  kk.on fun _ k => XS.ifYes X.here hx rfl (pc0 := pc) rfl hd rfl hc ho hp k
theorem o_icmpYes (X : Stand p l e R s m args below meth c T locs cells slots) (hx : p.tables.exec = Jvm.exec) {cd : ClassFile.Cond} {x y : Int32} {o : Int} (hd : decode c.code pc = .ok (.if_icmp cd o, 3)) (hc : if_icmp.holds cd x y = true) (ho : 0 ≤ (pc : Int) + o) (hp : ((pc : Int) + o).toNat = pc') (kk : Goes p.tables e below P (T.setTop (mkF m pc' L S))) : Goes p.tables e below P (T.setTop (mkF m pc L (.int y :: .int x :: S))) :=
  kk.on fun _ k => XS.icmpYes X.here hx rfl (pc0 := pc) rfl hd rfl hc ho hp k
theorem o_ifnullYes (X : Stand p l e R s m args below meth c T locs cells slots) (hx : p.tables.exec = Jvm.exec)  {o : Int} (hd : decode c.code pc = .ok (.ifnull o, 3)) (ho : 0 ≤ (pc : Int) + o) (hp : ((pc : Int) + o).toNat = pc') (kk : Goes p.tables e below P (T.setTop (mkF m pc' L S))) : Goes p.tables e below P (T.setTop (mkF m pc L (.null :: S))) :=
  kk.on fun _ k => XS.ifnullYes X.here hx rfl (pc0 := pc) rfl hd rfl ho hp k
theorem o_ifnonnullYes (X : Stand p l e R s m args below meth c T locs cells slots) (hx : p.tables.exec = Jvm.exec) {b : Addr} {o : Int} (hd : decode c.code pc = .ok (.ifnonnull o, 3)) (ho : 0 ≤ (pc : Int) + o) (hp : ((pc : Int) + o).toNat = pc') (kk : Goes p.tables e below P (T.setTop (mkF m pc' L S))) : Goes p.tables e below P (T.setTop (mkF m pc L (.ref b :: S))) :=
  kk.on fun _ k => XS.ifnonnullYes X.here hx rfl (pc0 := pc) rfl hd rfl ho hp k
theorem o_ifNo (X : Stand p l e R s m args below meth c T locs cells slots) (hx : p.tables.exec = Jvm.exec) {cd : ClassFile.Cond} {o : Int} {x : Int32} (hd : decode c.code pc = .ok (.ifCond cd o, 3)) (hc : ifCond.holds cd x = false) (hp : pc + 3 = pc') (kk : Goes p.tables e below P (T.setTop (mkF m pc' L S))) : Goes p.tables e below P (T.setTop (mkF m pc L (.int x :: S))) := by
  subst hp; exact kk.on fun _ k => XS.ifNo X.here hx rfl hd rfl hc k
theorem o_icmpNo (X : Stand p l e R s m args below meth c T locs cells slots) (hx : p.tables.exec = Jvm.exec) {cd : ClassFile.Cond} {o : Int} {x y : Int32} (hd : decode c.code pc = .ok (.if_icmp cd o, 3)) (hc : if_icmp.holds cd x y = false) (hp : pc + 3 = pc') (kk : Goes p.tables e below P (T.setTop (mkF m pc' L S))) : Goes p.tables e below P (T.setTop (mkF m pc L (.int y :: .int x :: S))) := by
  subst hp; exact kk.on fun _ k => XS.icmpNo X.here hx rfl hd rfl hc k
theorem o_ifnullNo (X : Stand p l e R s m args below meth c T locs cells slots) (hx : p.tables.exec = Jvm.exec) {o : Int} {b : Addr} (hd : decode c.code pc = .ok (.ifnull o, 3)) (hp : pc + 3 = pc') (kk : Goes p.tables e below P (T.setTop (mkF m pc' L S))) : Goes p.tables e below P (T.setTop (mkF m pc L (.ref b :: S))) := by
  subst hp; exact kk.on fun _ k => XS.ifnullNo X.here hx rfl hd rfl k
theorem o_ifnonnullNo (X : Stand p l e R s m args below meth c T locs cells slots) (hx : p.tables.exec = Jvm.exec) {o : Int} (hd : decode c.code pc = .ok (.ifnonnull o, 3)) (hp : pc + 3 = pc') (kk : Goes p.tables e below P (T.setTop (mkF m pc' L S))) : Goes p.tables e below P (T.setTop (mkF m pc L (.null :: S))) := by
  subst hp; exact kk.on fun _ k => XS.ifnonnullNo X.here hx rfl hd rfl k
theorem o_acmp (X : Stand p l e R s m args below meth c T locs cells slots) (hx : p.tables.exec = Jvm.exec) {cd : ACond} {x y : Value} {o : Int} {same : Bool} (hd : decode c.code pc = .ok (.if_acmp cd o, 3)) (h1 : x.isRef = true) (h2 : y.isRef = true) (hq : decide (x = y) = same) (ho : 0 ≤ (pc : Int) + o) (hp : pc' = if acV cd same = true then ((pc : Int) + o).toNat else pc + 3) (kk : Goes p.tables e below P (T.setTop (mkF m pc' L S))) : Goes p.tables e below P (T.setTop (mkF m pc L (y :: x :: S))) :=
  kk.on fun _ k => Jvm.RoadKit.acmp (g := mkF m pc L (y :: x :: S)) X hx rfl h1 h2 (pc0 := pc) (pc' := pc') (same := same) rfl hd rfl hq ho hp k
theorem o_tswIn (X : Stand p l e R s m args below meth c T locs cells slots) (hx : p.tables.exec = Jvm.exec) {dflt low high : Int} {offs : Array Int} {len : Nat} {o : Int} {i : Int32} (hd : decode c.code pc = .ok (.tableswitch dflt low high offs, len)) (hin : ¬ (i.toInt < low ∨ i.toInt > high)) (hoff : offs[(i.toInt - low).toNat]? = some o) (ho : 0 ≤ (pc : Int) + o) (hp : ((pc : Int) + o).toNat = pc') (kk : Goes p.tables e below P (T.setTop (mkF m pc' L S))) : Goes p.tables e below P (T.setTop (mkF m pc L (.int i :: S))) :=
  kk.on fun _ k => XS.tswIn X.here hx rfl (pc0 := pc) rfl hd rfl hin hoff ho hp k
theorem o_tswOut (X : Stand p l e R s m args below meth c T locs cells slots) (hx : p.tables.exec = Jvm.exec) {dflt low high : Int} {offs : Array Int} {len : Nat} {i : Int32} (hd : decode c.code pc = .ok (.tableswitch dflt low high offs, len)) (hout : i.toInt < low ∨ i.toInt > high) (ho : 0 ≤ (pc : Int) + dflt) (hp : ((pc : Int) + dflt).toNat = pc') (kk : Goes p.tables e below P (T.setTop (mkF m pc' L S))) : Goes p.tables e below P (T.setTop (mkF m pc L (.int i :: S))) :=
  kk.on fun _ k => XS.tswOut X.here hx rfl (pc0 := pc) rfl hd rfl hout ho hp k
theorem o_getF (X : Stand p l e R s m args below meth c T locs cells slots) (hx : p.tables.exec = Jvm.exec) (hZ : Z.Warmed39 s.vm) {own R0 O n d host : String} {index : Nat} (hown : s.vm.findClass own = some m.cls) (w : (Cond.fieldLink own index R0 n d).before a0 Z = true ∨ (Cond.fieldLinkNest own index R0 n d host).before a0 Z = true) (via : Via Z R0 O n d) (eT : T.heap = h) {a : Addr} {v : Value} (F : Fld Z h a O n d v) (hd : decode c.code pc = .ok (.getfield index, 3)) (hp : pc + 3 = pc')
    (kk : ∀ T', Stand p l e R s m args below meth c T' locs cells slots → T'.heap = h → Goes p.tables e below P (T'.setTop (mkF m pc' L (v :: S)))) : Goes p.tables e below P (T.setTop (mkF m pc L (.ref a :: S))) := by
  subst hp
  obtain ⟨T', X', e', st⟩ := getF X hx hZ hown w via eT F (g := mkF m pc L (.ref a :: S)) rfl rfl hd
  exact (kk T' X' e').on st
theorem o_getS (X : Stand p l e R s m args below meth c T locs cells slots) (hx : p.tables.exec = Jvm.exec) (hZ : Z.Warmed39 s.vm) {own R0 O n d host : String} {index : Nat} (hown : s.vm.findClass own = some m.cls) (w : (Cond.fieldLink own index R0 n d).before a0 Z = true ∨ (Cond.fieldLinkNest own index R0 n d host).before a0 Z = true) (via : Via Z R0 O n d) (eT : T.heap = h) {v : Value} (F : Sta Z h O n d v) (hd : decode c.code pc = .ok (.getstatic index, 3)) (hp : pc + 3 = pc')
    (kk : ∀ T', Stand p l e R s m args below meth c T' locs cells slots → T'.heap = h → Goes p.tables e below P (T'.setTop (mkF m pc' L (v :: S)))) : Goes p.tables e below P (T.setTop (mkF m pc L S)) := by
  subst hp
  obtain ⟨T', X', e', st⟩ := getS2 X hx hZ hown w via eT F (g := mkF m pc L S) rfl hd
  exact (kk T' X' e').on st
theorem o_putF (X : Stand p l e R s m args below meth c T locs cells slots) (hx : p.tables.exec = Jvm.exec) (hZ : Z.Warmed39 s.vm) {own R0 O n d host C : String} {index kk0 : Nat} {ty : FieldType} (hown : s.vm.findClass own = some m.cls) (w : (Cond.fieldLink own index R0 n d).before a0 Z = true ∨ (Cond.fieldLinkNest own index R0 n d host).before a0 Z = true) (via : Via Z R0 O n d) (eT : T.heap = h) {a : Addr} {v old : Value} (F : Fld Z h a O n d old) (E : Exa Z h a C) (Lw : (Cond.lays C O n d).before a0 Z = true ∨ ((Cond.laysFinal C O n d).before a0 Z = true ∧ own = O ∧ meth.name = "<init>")) (wi : (Cond.instantiable C kk0).before a0 Z = true)
    (hty : parseFieldDescriptor d = some ty) (hn : narrow ty v = v) (hf : fits ty v = true) (hd : decode c.code pc = .ok (.putfield index, 3)) (hp : pc + 3 = pc')
    (kk : ∀ T' h', Stand p l e R s m args below meth c T' (locs ++ [⟨a, Jvm.RoadKit.slotOf Z O n d⟩]) cells slots → T'.heap = h' → Wr h h' a (Jvm.RoadKit.slotOf Z O n d) v → Goes p.tables e below P (T'.setTop (mkF m pc' L S))) : Goes p.tables e below P (T.setTop (mkF m pc L (v :: .ref a :: S))) := by
  subst hp
  obtain ⟨T', h', X', e', W', st⟩ := putF X hx hZ hown w via eT F E Lw wi hty hn hf (g := mkF m pc L (v :: .ref a :: S)) rfl rfl hd
  exact (kk T' h' X' e' W').on st
theorem o_new (X : Stand p l e R s m args below meth c T locs cells slots) (hx : p.tables.exec = Jvm.exec) (hZ : Z.Warmed39 s.vm) {own C : String} {index n : Nat} (hown : s.vm.findClass own = some m.cls) (w : (Cond.classLink own index C).before a0 Z = true) (wi : (Cond.instantiable C n).before a0 Z = true) (wz : (Cond.initialized C).before a0 Z = true) (eT : T.heap = h) (hd : decode c.code pc = .ok (.new index, 3)) (hc : cells + 1 ≤ R.cells) (hl : slots + n ≤ R.slots) (hc' : cells + 1 = cells') (hs' : slots + n = slots') (hp : pc + 3 = pc')
    (kk : ∀ T' h' b, b = h.size → Stand p l e R s m args below meth c T' locs cells' slots' → T'.heap = h' → Ext h h' → Exa Z h' b C → (∀ {O nm d : String} {ty : FieldType}, Laid Z a0 C O nm d → parseFieldDescriptor d = some ty → Fld Z h' b O nm d (defaultValue ty)) → Goes p.tables e below P (T'.setTop (mkF m pc' L (.ref b :: S)))) : Goes p.tables e below P (T.setTop (mkF m pc L S)) := by
  subst hp hc' hs'
  obtain ⟨T', h', X', e', E', A', D', -, st⟩ := newO X hx hZ hown w wi wz eT (g := mkF m pc L S) rfl hd hc hl
  exact (kk T' h' _ rfl X' e' E' A' D').on st
theorem o_newP (X : Stand p l e R s m args below meth c T locs cells slots) (hx : p.tables.exec = Jvm.exec) (hZ : Z.Warmed39 s.vm) {aty : ArrayType} (w : (Cond.arrayClass (newarray.typeOf aty)).before a0 Z = true) (eT : T.heap = h) (hd : decode c.code pc = .ok (.newarray aty, 2)) {n : Int32} (hn : ¬ n < 0) {cap : Nat} (hcap : n.toNatClampNeg ≤ cap) (hb : cap * 8 ≤ 536870912) (hc : cells + 1 ≤ R.cells) (hl : slots + cap ≤ R.slots) (hc' : cells + 1 = cells') (hs' : slots + cap = slots') (hp : pc + 2 = pc')
    (kk : ∀ T' h' k b, b = h.size → Stand p l e R s m args below meth c T' locs cells' slots' → T'.heap = h' → Ext h h' → Arr Z h' b (newA k (newarray.typeOf aty) n) (newarray.typeOf aty) → Goes p.tables e below P (T'.setTop (mkF m pc' L (.ref b :: S)))) : Goes p.tables e below P (T.setTop (mkF m pc L (.int n :: S))) := by
  subst hp hc' hs'
  obtain ⟨T', h', k, X', e', E', A', st⟩ := newP X hx hZ w eT (g := mkF m pc L (.int n :: S)) rfl hd rfl hn hcap hb hc hl
  exact (kk T' h' k _ rfl X' e' E' A').on st
theorem o_initO (X : Stand p l e R s m args below meth c T locs cells slots) (hx : p.tables.exec = Jvm.exec) (hZ : Z.Warmed39 s.vm) {own : String} {idx : Nat} (hown : s.vm.findClass own = some m.cls) (w1 : (Cond.methodLink own idx Lib.objectInit).before a0 Z = true) (w2 : (Cond.instanceMethod Lib.objectInit).before a0 Z = true) (w3 : (Cond.code Lib.objectInit ⟨#[0xb1]⟩ 1 none).before a0 Z = true) (eT : T.heap = h) (hsize : L.size = c.maxLocals) {a : Addr} (hd : decode c.code pc = .ok (.invokespecial idx, 3)) (hf : 1 ≤ R.frames) {W : Nat} (hW : (S.map fun v => v.category).sum = W) (hl : W + 12 ≤ R.locals) (hp : pc + 3 = pc')
    (kk : ∀ T', Stand p l e R s m args below meth c T' locs cells slots → T'.heap = h → Goes p.tables e below P (T'.setTop (mkF m pc' L S))) : Goes p.tables e below P (T.setTop (mkF m pc L (.ref a :: S))) := by
  subst hp
  obtain ⟨T', X', e', st⟩ := initO X hx hZ hown w1 w2 w3 eT (g := mkF m pc L (.ref a :: S)) rfl hsize rfl hd hf (W := W) (by rw [← hW]; show 2 * 0 + _ ≤ _; omega) hl
  exact (kk T' X' e').on st
theorem o_stI (X : Stand p l e R s m args below meth c T locs cells slots) (hx : p.tables.exec = Jvm.exec) (hZ : Z.Warmed39 s.vm) (eT : T.heap = h) {a : Addr} {kc : ClassId} {z : Int32} {vs : List Value} {dv : Value} (A : Arv Z h a kc .int z vs dv) {j : Int32} {x : Int32} {i : Nat} (hj : ¬ j < 0 ∧ j < z) (hi : j.toNatClampNeg = i) (hv : i < vs.length) (hd : decode c.code pc = .ok (.iastore, 1)) (hp : pc + 1 = pc')
    (kk : ∀ T' h', Stand p l e R s m args below meth c T' (locs ++ [⟨a, i⟩]) cells slots → T'.heap = h' → Wr h h' a i (.int x) → Arv Z h' a kc .int z (vs.set i (.int x)) dv → Goes p.tables e below P (T'.setTop (mkF m pc' L S))) : Goes p.tables e below P (T.setTop (mkF m pc L ((.int x) :: .int j :: .ref a :: S))) := by
  subst hp
  obtain ⟨cl, A1, q1, S1, N1, H1, G1⟩ := A
  obtain ⟨T', h', X', e', W', st⟩ := stI X hx hZ eT A1 (j := j) (x := x) (inb_of S1 hj) (g := mkF m pc L ((.int x) :: .int j :: .ref a :: S)) rfl rfl hd
  have V' := Arv.set A1 q1 S1 N1 H1 G1 (rfl) W' i hi hv
  rw [hi] at X' W'
  exact (kk T' h' X' e' W' V').on st
theorem o_stJ (X : Stand p l e R s m args below meth c T locs cells slots) (hx : p.tables.exec = Jvm.exec) (hZ : Z.Warmed39 s.vm) (eT : T.heap = h) {a : Addr} {kc : ClassId} {z : Int32} {vs : List Value} {dv : Value} (A : Arv Z h a kc .long z vs dv) {j : Int32} {x : Int64} {i : Nat} (hj : ¬ j < 0 ∧ j < z) (hi : j.toNatClampNeg = i) (hv : i < vs.length) (hd : decode c.code pc = .ok (.lastore, 1)) (hp : pc + 1 = pc')
    (kk : ∀ T' h', Stand p l e R s m args below meth c T' (locs ++ [⟨a, i⟩]) cells slots → T'.heap = h' → Wr h h' a i (.long x) → Arv Z h' a kc .long z (vs.set i (.long x)) dv → Goes p.tables e below P (T'.setTop (mkF m pc' L S))) : Goes p.tables e below P (T.setTop (mkF m pc L ((.long x) :: .int j :: .ref a :: S))) := by
  subst hp
  obtain ⟨cl, A1, q1, S1, N1, H1, G1⟩ := A
  obtain ⟨T', h', X', e', W', st⟩ := stJ X hx hZ eT A1 (j := j) (x := x) (inb_of S1 hj) (g := mkF m pc L ((.long x) :: .int j :: .ref a :: S)) rfl rfl hd
  have V' := Arv.set A1 q1 S1 N1 H1 G1 (rfl) W' i hi hv
  rw [hi] at X' W'
  exact (kk T' h' X' e' W' V').on st
theorem o_stC (X : Stand p l e R s m args below meth c T locs cells slots) (hx : p.tables.exec = Jvm.exec) (hZ : Z.Warmed39 s.vm) (eT : T.heap = h) {a : Addr} {kc : ClassId} {z : Int32} {vs : List Value} {dv : Value} (A : Arv Z h a kc .char z vs dv) {j : Int32} {x : Int32} {i : Nat} (hj : ¬ j < 0 ∧ j < z) (hi : j.toNatClampNeg = i) (hv : i < vs.length) (hd : decode c.code pc = .ok (.castore, 1)) (hp : pc + 1 = pc')
    (kk : ∀ T' h', Stand p l e R s m args below meth c T' (locs ++ [⟨a, i⟩]) cells slots → T'.heap = h' → Wr h h' a i (.int (nar .char x)) → Arv Z h' a kc .char z (vs.set i (.int (nar .char x))) dv → Goes p.tables e below P (T'.setTop (mkF m pc' L S))) : Goes p.tables e below P (T.setTop (mkF m pc L ((.int x) :: .int j :: .ref a :: S))) := by
  subst hp
  obtain ⟨cl, A1, q1, S1, N1, H1, G1⟩ := A
  obtain ⟨T', h', X', e', W', st⟩ := stC X hx hZ eT A1 (j := j) (x := x) (inb_of S1 hj) (g := mkF m pc L ((.int x) :: .int j :: .ref a :: S)) rfl rfl hd
  have V' := Arv.set A1 q1 S1 N1 H1 G1 (fits_nar_char _) W' i hi hv
  rw [hi] at X' W'
  exact (kk T' h' X' e' W' V').on st
theorem o_stB (X : Stand p l e R s m args below meth c T locs cells slots) (hx : p.tables.exec = Jvm.exec) (hZ : Z.Warmed39 s.vm) (eT : T.heap = h) {a : Addr} {kc : ClassId} {z : Int32} {vs : List Value} {dv : Value} (A : Arv Z h a kc .byte z vs dv) {j : Int32} {x : Int32} {i : Nat} (hj : ¬ j < 0 ∧ j < z) (hi : j.toNatClampNeg = i) (hv : i < vs.length) (hd : decode c.code pc = .ok (.bastore, 1)) (hp : pc + 1 = pc')
    (kk : ∀ T' h', Stand p l e R s m args below meth c T' (locs ++ [⟨a, i⟩]) cells slots → T'.heap = h' → Wr h h' a i (.int (nar .byte x)) → Arv Z h' a kc .byte z (vs.set i (.int (nar .byte x))) dv → Goes p.tables e below P (T'.setTop (mkF m pc' L S))) : Goes p.tables e below P (T.setTop (mkF m pc L ((.int x) :: .int j :: .ref a :: S))) := by
  subst hp
  obtain ⟨cl, A1, q1, S1, N1, H1, G1⟩ := A
  obtain ⟨T', h', X', e', W', st⟩ := stB X hx hZ eT A1 (j := j) (x := x) (inb_of S1 hj) (g := mkF m pc L ((.int x) :: .int j :: .ref a :: S)) rfl rfl hd
  have V' := Arv.set A1 q1 S1 N1 H1 G1 (fits_nar_byte _) W' i hi hv
  rw [hi] at X' W'
  exact (kk T' h' X' e' W' V').on st
theorem o_stZ (X : Stand p l e R s m args below meth c T locs cells slots) (hx : p.tables.exec = Jvm.exec) (hZ : Z.Warmed39 s.vm) (eT : T.heap = h) {a : Addr} {kc : ClassId} {z : Int32} {vs : List Value} {dv : Value} (A : Arv Z h a kc .boolean z vs dv) {j : Int32} {x : Int32} {i : Nat} (hj : ¬ j < 0 ∧ j < z) (hi : j.toNatClampNeg = i) (hv : i < vs.length) (hd : decode c.code pc = .ok (.bastore, 1)) (hp : pc + 1 = pc')
    (kk : ∀ T' h', Stand p l e R s m args below meth c T' (locs ++ [⟨a, i⟩]) cells slots → T'.heap = h' → Wr h h' a i (.int (nar .boolean x)) → Arv Z h' a kc .boolean z (vs.set i (.int (nar .boolean x))) dv → Goes p.tables e below P (T'.setTop (mkF m pc' L S))) : Goes p.tables e below P (T.setTop (mkF m pc L ((.int x) :: .int j :: .ref a :: S))) := by
  subst hp
  obtain ⟨cl, A1, q1, S1, N1, H1, G1⟩ := A
  obtain ⟨T', h', X', e', W', st⟩ := stZ X hx hZ eT A1 (j := j) (x := x) (inb_of S1 hj) (g := mkF m pc L ((.int x) :: .int j :: .ref a :: S)) rfl rfl hd
  have V' := Arv.set A1 q1 S1 N1 H1 G1 (fits_nar_bool _) W' i hi hv
  rw [hi] at X' W'
  exact (kk T' h' X' e' W' V').on st
theorem o_stD (X : Stand p l e R s m args below meth c T locs cells slots) (hx : p.tables.exec = Jvm.exec) (hZ : Z.Warmed39 s.vm) (eT : T.heap = h) {a : Addr} {kc : ClassId} {z : Int32} {vs : List Value} {dv : Value} (A : Arv Z h a kc .double z vs dv) {j : Int32} {x : UInt64} {i : Nat} (hj : ¬ j < 0 ∧ j < z) (hi : j.toNatClampNeg = i) (hv : i < vs.length) (hd : decode c.code pc = .ok (.dastore, 1)) (hp : pc + 1 = pc')
    (kk : ∀ T' h', Stand p l e R s m args below meth c T' (locs ++ [⟨a, i⟩]) cells slots → T'.heap = h' → Wr h h' a i (.double x) → Arv Z h' a kc .double z (vs.set i (.double x)) dv → Goes p.tables e below P (T'.setTop (mkF m pc' L S))) : Goes p.tables e below P (T.setTop (mkF m pc L ((.double x) :: .int j :: .ref a :: S))) := by
  subst hp
  obtain ⟨cl, A1, q1, S1, N1, H1, G1⟩ := A
  obtain ⟨T', h', X', e', W', st⟩ := stD X hx hZ eT A1 (j := j) (x := x) (inb_of S1 hj) (g := mkF m pc L ((.double x) :: .int j :: .ref a :: S)) rfl rfl hd
  have V' := Arv.set A1 q1 S1 N1 H1 G1 (rfl) W' i hi hv
  rw [hi] at X' W'
  exact (kk T' h' X' e' W' V').on st
theorem o_castY (X : Stand p l e R s m args below meth c T locs cells slots) (hx : p.tables.exec = Jvm.exec) (hZ : Z.Warmed39 s.vm) {own K : String} {index : Nat} (hown : s.vm.findClass own = some m.cls) (w : (Cond.classLink own index K).before a0 Z = true) (eT : T.heap = h) {a : Addr} (F : Ins Z h a K true) (hd : decode c.code pc = .ok (.checkcast index, 3)) (hp : pc + 3 = pc')
    (kk : ∀ T', Stand p l e R s m args below meth c T' locs cells slots → T'.heap = h → Goes p.tables e below P (T'.setTop (mkF m pc' L (.ref a :: S)))) : Goes p.tables e below P (T.setTop (mkF m pc L (.ref a :: S))) := by
  subst hp
  obtain ⟨T', X', e', st⟩ := castY X hx hZ hown w eT F (g := mkF m pc L (.ref a :: S)) rfl rfl hd
  exact (kk T' X' e').on st
theorem o_instY (X : Stand p l e R s m args below meth c T locs cells slots) (hx : p.tables.exec = Jvm.exec) (hZ : Z.Warmed39 s.vm) {own K : String} {index : Nat} (hown : s.vm.findClass own = some m.cls) (w : (Cond.classLink own index K).before a0 Z = true) (eT : T.heap = h) {a : Addr} (F : Ins Z h a K true) (hd : decode c.code pc = .ok (.instanceof index, 3)) (hp : pc + 3 = pc')
    (kk : ∀ T', Stand p l e R s m args below meth c T' locs cells slots → T'.heap = h → Goes p.tables e below P (T'.setTop (mkF m pc' L (.int 1 :: S)))) : Goes p.tables e below P (T.setTop (mkF m pc L (.ref a :: S))) := by
  subst hp
  obtain ⟨T', X', e', st⟩ := instY X hx hZ hown w eT F (g := mkF m pc L (.ref a :: S)) rfl rfl hd
  exact (kk T' X' e').on st
theorem o_instNo (X : Stand p l e R s m args below meth c T locs cells slots) (hx : p.tables.exec = Jvm.exec) (hZ : Z.Warmed39 s.vm) {own K C : String} {index : Nat} (hown : s.vm.findClass own = some m.cls) (w : (Cond.classLink own index K).before a0 Z = true) (eT : T.heap = h) {a : Addr} (E : Exa Z h a C) (F : ∃ c t, Z.vm.findClass C = some c ∧ Z.vm.findClass K = some t ∧ Z.vm.assignable c t = false) (hd : decode c.code pc = .ok (.instanceof index, 3)) (hp : pc + 3 = pc')
    (kk : ∀ T', Stand p l e R s m args below meth c T' locs cells slots → T'.heap = h → Goes p.tables e below P (T'.setTop (mkF m pc' L (.int 0 :: S)))) : Goes p.tables e below P (T.setTop (mkF m pc L (.ref a :: S))) := by
  subst hp
  obtain ⟨T', X', e', st⟩ := instNo X hx hZ hown w eT E F (g := mkF m pc L (.ref a :: S)) rfl rfl hd
  exact (kk T' X' e').on st
theorem o_static (X : Stand p l e R s m args below meth c T locs cells slots) (hx : p.tables.exec = Jvm.exec) (hZ : Z.Warmed39 s.vm) {own : String} {index : Nat} {y : MethodName} {bytes : ByteArray} {maxL : Nat} {ret : Option FieldType} (hown : s.vm.findClass own = some m.cls) (w1 : (Cond.methodLink own index y).before a0 Z = true) (w2 : (Cond.static y).before a0 Z = true) (hy : y.cls ≠ "java/lang/invoke/MethodHandle" ∧ y.cls ≠ "java/lang/invoke/VarHandle") {rm : Room} {as' : Array Value} {Q : Option Value → Heap → List Loc → Prop} (hM : Met l Z y bytes maxL ret rm [] as' h Q) (hwc : (Cond.code y bytes maxL ret).before a0 Z = true) (hwi : (Cond.initialized y.cls).before a0 Z = true) (eT : T.heap = h) (hsize : L.size = c.maxLocals) {argsL rest : List Value} {W : Nat} {ps : List FieldType} {rr : Option FieldType} (hpd : parseMethodDescriptor y.desc = some ⟨ps, rr⟩) (hlen : argsL.length = ps.length) (hst : S = argsL.reverse ++ rest) (has : as' = (argsL).toArray) (hW : (rest.map fun v => v.category).sum = W) (hd : decode c.code pc = .ok (.invokestatic index, 3)) (hf : rm.frames + 1 ≤ R.frames) (hlo : W + (maxL + 11) + rm.locals ≤ R.locals) (hc : cells + rm.cells ≤ R.cells) (hs : slots + rm.slots ≤ R.slots) (hc' : cells + rm.cells = cells') (hs' : slots + rm.slots = slots') (hp : pc + 3 = pc')
    (kk : ∀ v T' h' Lc, Stand p l e R s m args below meth c T' (locs ++ Lc) cells' slots' → T'.heap = h' → Q v h' Lc → Goes p.tables e below P (T'.setTop (mkF m pc' L (v.toList ++ rest)))) : Goes p.tables e below P (T.setTop (mkF m pc L S)) := by
  subst hp hc' hs' hst has
  obtain ⟨_, _, ⟨T1, L1, k1, n1⟩, -, X1, ⟨Lc, hQ, l1, y1, z1⟩, st⟩ := Jvm.LawKit.callS X hx hown (mvT hZ w1) (mvT hZ w2) (mvT hZ hwi) (mvT hZ hwc) hy (backOf (W := W) hM hZ hwc hwi hf hlo) (g := mkF m pc L (argsL.reverse ++ rest)) rfl hsize (argsL := argsL) (rest := rest) (lenOf hpd hlen) rfl (by rw [← hW]; show 2 * 0 + _ ≤ _; omega) hd (fun _ _ => ⟨rfl, eT, hc, hs⟩)
  dsimp only [Pt.U, Pt.locs, Pt.cells, Pt.slots] at X1 l1 y1 z1 st hQ
  subst l1 y1 z1
  exact (kk _ _ _ _ X1 rfl hQ).on st
theorem o_special (X : Stand p l e R s m args below meth c T locs cells slots) (hx : p.tables.exec = Jvm.exec) (hZ : Z.Warmed39 s.vm) {own : String} {index : Nat} {y : MethodName} {bytes : ByteArray} {maxL : Nat} {ret : Option FieldType} (hr : ret = none) (hy1 : y.name = "<init>") (hown : s.vm.findClass own = some m.cls) (w1 : (Cond.methodLink own index y).before a0 Z = true) (w2 : (Cond.instanceMethod y).before a0 Z = true) (hy : y.cls ≠ "java/lang/invoke/MethodHandle" ∧ y.cls ≠ "java/lang/invoke/VarHandle") {a : Addr} {rm : Room} {as' : Array Value} {Q : Option Value → Heap → List Loc → Prop} (hM : Met l Z y bytes maxL ret rm [] as' h Q) (hwc : (Cond.code y bytes maxL ret).before a0 Z = true) (hwi : (Cond.initialized y.cls).before a0 Z = true) (eT : T.heap = h) (hsize : L.size = c.maxLocals) {argsL rest : List Value} {W : Nat} {ps : List FieldType} {rr : Option FieldType} (hpd : parseMethodDescriptor y.desc = some ⟨ps, rr⟩) (hlen : argsL.length = ps.length) (hst : S = argsL.reverse ++ .ref a :: rest) (has : as' = (.ref a :: argsL).toArray) (hW : (rest.map fun v => v.category).sum = W) (hd : decode c.code pc = .ok (.invokespecial index, 3)) (hf : rm.frames + 1 ≤ R.frames) (hlo : W + (maxL + 11) + rm.locals ≤ R.locals) (hc : cells + rm.cells ≤ R.cells) (hs : slots + rm.slots ≤ R.slots) (hc' : cells + rm.cells = cells') (hs' : slots + rm.slots = slots') (hp : pc + 3 = pc')
    (kk : ∀ v T' h' Lc, Stand p l e R s m args below meth c T' (locs ++ Lc) cells' slots' → T'.heap = h' → Q v h' Lc → Goes p.tables e below P (T'.setTop (mkF m pc' L (v.toList ++ rest)))) : Goes p.tables e below P (T.setTop (mkF m pc L S)) := by
  subst hp hc' hs' hst has hr
  obtain ⟨_, _, ⟨T1, L1, k1, n1⟩, -, X1, ⟨Lc, hQ, l1, y1, z1⟩, st⟩ := X.specialBack hx hy1 hown (mvT hZ w1) (mvT hZ w2) (mvT hZ hwc) hy (backOf (W := W) hM hZ hwc hwi hf hlo) (g := mkF m pc L (argsL.reverse ++ .ref a :: rest)) rfl hsize (Steps.refl _) (a := a) (argsL := argsL) (rest := rest) (lenOf hpd hlen) rfl (by rw [← hW]; show 2 * 0 + _ ≤ _; omega) hd (fun _ _ => ⟨rfl, eT, hc, hs⟩)
  dsimp only [Pt.U, Pt.locs, Pt.cells, Pt.slots] at X1 l1 y1 z1 st hQ
  subst l1 y1 z1
  exact (kk _ _ _ _ X1 rfl hQ).to st
theorem o_virtual (X : Stand p l e R s m args below meth c T locs cells slots) (hx : p.tables.exec = Jvm.exec) (hZ : Z.Warmed39 s.vm) {own C : String} {index : Nat} {y z : MethodName} {bytes : ByteArray} {maxL : Nat} {ret : Option FieldType} (hown : s.vm.findClass own = some m.cls) (w1 : (Cond.methodLink own index y).before a0 Z = true) (w2 : (Cond.declares y).before a0 Z = true) (hnf : NotFace s y) (w3 : (Cond.selects C y z).before a0 Z = true) (w4 : (Cond.instanceMethod z).before a0 Z = true) (hy : y.cls ≠ "java/lang/invoke/MethodHandle" ∧ y.cls ≠ "java/lang/invoke/VarHandle") {a : Addr} (E : Exa Z h a C) {rm : Room} {as' : Array Value} {Q : Option Value → Heap → List Loc → Prop} (hM : Met l Z z bytes maxL ret rm [] as' h Q) (hwc : (Cond.code z bytes maxL ret).before a0 Z = true) (hwi : (Cond.initialized z.cls).before a0 Z = true) (eT : T.heap = h) (hsize : L.size = c.maxLocals) {argsL rest : List Value} {W : Nat} {ps : List FieldType} {rr : Option FieldType} (hpd : parseMethodDescriptor y.desc = some ⟨ps, rr⟩) (hlen : argsL.length = ps.length) (hst : S = argsL.reverse ++ .ref a :: rest) (has : as' = (.ref a :: argsL).toArray) (hW : (rest.map fun v => v.category).sum = W) (hd : decode c.code pc = .ok (.invokevirtual index, 3)) (hf : rm.frames + 1 ≤ R.frames) (hlo : W + (maxL + 11) + rm.locals ≤ R.locals) (hc : cells + rm.cells ≤ R.cells) (hs : slots + rm.slots ≤ R.slots) (hc' : cells + rm.cells = cells') (hs' : slots + rm.slots = slots') (hp : pc + 3 = pc')
    (kk : ∀ v T' h' Lc, Stand p l e R s m args below meth c T' (locs ++ Lc) cells' slots' → T'.heap = h' → Q v h' Lc → Goes p.tables e below P (T'.setTop (mkF m pc' L (v.toList ++ rest)))) : Goes p.tables e below P (T.setTop (mkF m pc L S)) := by
  subst hp hc' hs' hst has
  obtain ⟨cq, kq, qa, qb, qc⟩ := isOf (T := T) hZ eT E
  obtain ⟨_, _, ⟨T1, L1, k1, n1⟩, -, X1, ⟨Lc, hQ, l1, y1, z1⟩, st⟩ := X.virtualBack hx hown (mvT hZ w1) (mvT hZ w2) hnf (mvT hZ w3) (mvT hZ w4) hy (backOf (W := W) hM hZ hwc hwi hf hlo) qa qc (g := mkF m pc L (argsL.reverse ++ .ref a :: rest)) rfl hsize (Steps.refl _) (argsL := argsL) (rest := rest) (lenOf hpd hlen) rfl (by rw [← hW]; show 2 * 0 + _ ≤ _; omega) hd (fun _ _ => ⟨rfl, eT, hc, hs⟩)
  dsimp only [Pt.U, Pt.locs, Pt.cells, Pt.slots] at X1 l1 y1 z1 st hQ
  subst l1 y1 z1
  exact (kk _ _ _ _ X1 rfl hQ).to st
theorem o_iface (X : Stand p l e R s m args below meth c T locs cells slots) (hx : p.tables.exec = Jvm.exec) (hZ : Z.Warmed39 s.vm) {own C : String} {index count : Nat} {xi y : MethodName} {bytes : ByteArray} {maxL : Nat} {ret : Option FieldType} (hown : s.vm.findClass own = some m.cls) (w1 : (Cond.methodLink own index xi).before a0 Z = true) (w2 : (Cond.declares xi).before a0 Z = true) (w3 : (Cond.interfaceMethod xi.cls xi.cls xi.name xi.desc).before args s = true) (w4 : (Cond.selects C xi y).before a0 Z = true) (w5 : (Cond.instanceMethod y).before a0 Z = true) (w6 : (Cond.publicMethod y).before a0 Z = true) (w7 : (Cond.unhidden C xi.name xi.desc).before a0 Z = true) (w8 : (Cond.castable C xi.cls).before a0 Z = true) (hy : xi.cls ≠ "java/lang/invoke/MethodHandle" ∧ xi.cls ≠ "java/lang/invoke/VarHandle") {a : Addr} (E : Exa Z h a C) {rm : Room} {as' : Array Value} {Q : Option Value → Heap → List Loc → Prop} (hM : Met l Z y bytes maxL ret rm [] as' h Q) (hwc : (Cond.code y bytes maxL ret).before a0 Z = true) (hwi : (Cond.initialized y.cls).before a0 Z = true) (eT : T.heap = h) (hsize : L.size = c.maxLocals) {argsL rest : List Value} {W : Nat} {ps : List FieldType} {rr : Option FieldType} (hpd : parseMethodDescriptor xi.desc = some ⟨ps, rr⟩) (hlen : argsL.length = ps.length) (hst : S = argsL.reverse ++ .ref a :: rest) (has : as' = (.ref a :: argsL).toArray) (hW : (rest.map fun v => v.category).sum = W) (hd : decode c.code pc = .ok (.invokeinterface index count, 5)) (hf : rm.frames + 1 ≤ R.frames) (hlo : W + (maxL + 11) + rm.locals ≤ R.locals) (hc : cells + rm.cells ≤ R.cells) (hs : slots + rm.slots ≤ R.slots) (hc' : cells + rm.cells = cells') (hs' : slots + rm.slots = slots') (hp : pc + 5 = pc')
    (kk : ∀ v T' h' Lc, Stand p l e R s m args below meth c T' (locs ++ Lc) cells' slots' → T'.heap = h' → Q v h' Lc → Goes p.tables e below P (T'.setTop (mkF m pc' L (v.toList ++ rest)))) : Goes p.tables e below P (T.setTop (mkF m pc L S)) := by
  subst hp hc' hs' hst has
  obtain ⟨cq, kq, qa, qb, qc⟩ := isOf (T := T) hZ eT E
  obtain ⟨_, _, ⟨T1, L1, k1, n1⟩, -, X1, ⟨Lc, hQ, l1, y1, z1⟩, st⟩ := X.interfaceBack hx hown (mvT hZ w1) (mvT hZ w2) w3 (mvT hZ w4) (mvT hZ w5) (mvT hZ w6) (mvT hZ w7) (mvT hZ w8) hy (backOf (W := W) hM hZ hwc hwi hf hlo) qa qb qc (g := mkF m pc L (argsL.reverse ++ .ref a :: rest)) rfl hsize (Steps.refl _) (argsL := argsL) (rest := rest) (lenOf hpd hlen) rfl (by rw [← hW]; show 2 * 0 + _ ≤ _; omega) hd (fun _ _ => ⟨rfl, eT, hc, hs⟩)
  dsimp only [Pt.U, Pt.locs, Pt.cells, Pt.slots] at X1 l1 y1 z1 st hQ
  subst l1 y1 z1
  exact (kk _ _ _ _ X1 rfl hQ).to st
theorem o_virtualUp (X : Stand p l e R s m args below meth c T locs cells slots) (hx : p.tables.exec = Jvm.exec) (hZ : Z.Warmed39 s.vm) {own C owner : String} {index : Nat} {x y : MethodName} {bytes : ByteArray} {maxL : Nat} {ret : Option FieldType} (hown : s.vm.findClass own = some m.cls) (w1 : (Cond.methodLink own index x).before a0 Z = true) (w2 : (Cond.sameMethod x.cls owner x.name x.desc).before a0 Z = true) (w2' : (Cond.declares ⟨owner, x.name, x.desc⟩).before a0 Z = true) (w3 : (Cond.selects C x y).before a0 Z = true) (w4 : (Cond.instanceMethod y).before a0 Z = true) (hy : owner ≠ "java/lang/invoke/MethodHandle" ∧ owner ≠ "java/lang/invoke/VarHandle") {a : Addr} (E : Exa Z h a C) {rm : Room} {as' : Array Value} {Q : Option Value → Heap → List Loc → Prop} (hM : Met l Z y bytes maxL ret rm [] as' h Q) (hwc : (Cond.code y bytes maxL ret).before a0 Z = true) (hwi : (Cond.initialized y.cls).before a0 Z = true) (eT : T.heap = h) (hsize : L.size = c.maxLocals) {argsL rest : List Value} {W : Nat} {ps : List FieldType} {rr : Option FieldType} (hpd : parseMethodDescriptor x.desc = some ⟨ps, rr⟩) (hlen : argsL.length = ps.length) (hst : S = argsL.reverse ++ .ref a :: rest) (has : as' = (.ref a :: argsL).toArray) (hW : (rest.map fun v => v.category).sum = W) (hd : decode c.code pc = .ok (.invokevirtual index, 3)) (hf : rm.frames + 1 ≤ R.frames) (hlo : W + (maxL + 11) + rm.locals ≤ R.locals) (hc : cells + rm.cells ≤ R.cells) (hs : slots + rm.slots ≤ R.slots) (hc' : cells + rm.cells = cells') (hs' : slots + rm.slots = slots') (hp : pc + 3 = pc')
    (kk : ∀ v T' h' Lc, Stand p l e R s m args below meth c T' (locs ++ Lc) cells' slots' → T'.heap = h' → Q v h' Lc → Goes p.tables e below P (T'.setTop (mkF m pc' L (v.toList ++ rest)))) : Goes p.tables e below P (T.setTop (mkF m pc L S)) := by
  subst hp hc' hs' hst has
  obtain ⟨cq, kq, qa, qb, qc⟩ := isOf (T := T) hZ eT E
  obtain ⟨_, _, ⟨T1, L1, k1, n1⟩, -, X1, ⟨Lc, hQ, l1, y1, z1⟩, st⟩ := X.virtualBackUp hx hown (mvT hZ w1) (mvT hZ w2) (mvT hZ w2') hy (mvT hZ w3) (mvT hZ w4) (backOf (W := W) hM hZ hwc hwi hf hlo) qa qc (g := mkF m pc L (argsL.reverse ++ .ref a :: rest)) rfl hsize (Steps.refl _) (argsL := argsL) (rest := rest) (lenOf hpd hlen) rfl (by rw [← hW]; show 2 * 0 + _ ≤ _; omega) hd (fun _ _ => ⟨rfl, eT, hc, hs⟩)
  dsimp only [Pt.U, Pt.locs, Pt.cells, Pt.slots] at X1 l1 y1 z1 st hQ
  subst l1 y1 z1
  exact (kk _ _ _ _ X1 rfl hQ).to st
theorem o_alen (X : Stand p l e R s m args below meth c T locs cells slots) (hx : p.tables.exec = Jvm.exec) (hZ : Z.Warmed39 s.vm) (eT : T.heap = h) {a : Addr} {kc : ClassId} {ty : FieldType} {z : Int32} {vs : List Value} {dv : Value} (A : Arv Z h a kc ty z vs dv) (hd : decode c.code pc = .ok (.arraylength, 1)) (hp : pc + 1 = pc') (kk : Goes p.tables e below P (T.setTop (mkF m pc' L (.int z :: S)))) : Goes p.tables e below P (T.setTop (mkF m pc L (.ref a :: S))) := by
  subst hp
  obtain ⟨cl, A1, q1, S1, N1, H1, G1⟩ := A
  rw [← len_of S1 N1] at kk
  exact kk.on fun _ k => X.arraylength hx (by rw [eT]; exact A1.1) (State.isArrayOf_alike hZ.alike A1.2.1) (g := mkF m pc L (.ref a :: S)) rfl rfl hd _ k
theorem o_iaload (X : Stand p l e R s m args below meth c T locs cells slots) (hx : p.tables.exec = Jvm.exec) (hZ : Z.Warmed39 s.vm) (eT : T.heap = h) {a : Addr} {kc : ClassId} {z : Int32} {vs : List Value} {dv v : Value} (A : Arv Z h a kc .int z vs dv) {j : Int32} (hj : ¬ j < 0 ∧ j < z) (hv : vs.getD j.toNatClampNeg dv = v) (hd : decode c.code pc = .ok (.iaload, 1)) (hp : pc + 1 = pc') (kk : Goes p.tables e below P (T.setTop (mkF m pc' L (v :: S)))) : Goes p.tables e below P (T.setTop (mkF m pc L (.int j :: .ref a :: S))) := by
  subst hp
  obtain ⟨cl, A1, q1, S1, N1, H1, G1⟩ := A
  have hin := inb_of S1 hj
  exact kk.on fun _ k => X.iaload hx (j := j) (v := v) (by rw [eT]; exact A1.1) (State.isArrayOf_alike hZ.alike A1.2.1) A1.2.2 hin (H1.at hin hv) (g := mkF m pc L (.int j :: .ref a :: S)) rfl rfl hd _ k
theorem o_laload (X : Stand p l e R s m args below meth c T locs cells slots) (hx : p.tables.exec = Jvm.exec) (hZ : Z.Warmed39 s.vm) (eT : T.heap = h) {a : Addr} {kc : ClassId} {z : Int32} {vs : List Value} {dv v : Value} (A : Arv Z h a kc .long z vs dv) {j : Int32} (hj : ¬ j < 0 ∧ j < z) (hv : vs.getD j.toNatClampNeg dv = v) (hd : decode c.code pc = .ok (.laload, 1)) (hp : pc + 1 = pc') (kk : Goes p.tables e below P (T.setTop (mkF m pc' L (v :: S)))) : Goes p.tables e below P (T.setTop (mkF m pc L (.int j :: .ref a :: S))) := by
  subst hp
  obtain ⟨cl, A1, q1, S1, N1, H1, G1⟩ := A
  have hin := inb_of S1 hj
  exact kk.on fun _ k => X.laload hx (j := j) (v := v) (by rw [eT]; exact A1.1) (State.isArrayOf_alike hZ.alike A1.2.1) A1.2.2 hin (H1.at hin hv) (g := mkF m pc L (.int j :: .ref a :: S)) rfl rfl hd _ k
theorem o_caload (X : Stand p l e R s m args below meth c T locs cells slots) (hx : p.tables.exec = Jvm.exec) (hZ : Z.Warmed39 s.vm) (eT : T.heap = h) {a : Addr} {kc : ClassId} {z : Int32} {vs : List Value} {dv v : Value} (A : Arv Z h a kc .char z vs dv) {j : Int32} (hj : ¬ j < 0 ∧ j < z) (hv : vs.getD j.toNatClampNeg dv = v) (hd : decode c.code pc = .ok (.caload, 1)) (hp : pc + 1 = pc') (kk : Goes p.tables e below P (T.setTop (mkF m pc' L (v :: S)))) : Goes p.tables e below P (T.setTop (mkF m pc L (.int j :: .ref a :: S))) := by
  subst hp
  obtain ⟨cl, A1, q1, S1, N1, H1, G1⟩ := A
  have hin := inb_of S1 hj
  exact kk.on fun _ k => X.caload hx (j := j) (v := v) (by rw [eT]; exact A1.1) (State.isArrayOf_alike hZ.alike A1.2.1) A1.2.2 hin (H1.at hin hv) (g := mkF m pc L (.int j :: .ref a :: S)) rfl rfl hd _ k
theorem o_baloadBytes (X : Stand p l e R s m args below meth c T locs cells slots) (hx : p.tables.exec = Jvm.exec) (hZ : Z.Warmed39 s.vm) (eT : T.heap = h) {a : Addr} {kc : ClassId} {z : Int32} {vs : List Value} {dv v : Value} (A : Arv Z h a kc .byte z vs dv) {j : Int32} (hj : ¬ j < 0 ∧ j < z) (hv : vs.getD j.toNatClampNeg dv = v) (hd : decode c.code pc = .ok (.baload, 1)) (hp : pc + 1 = pc') (kk : Goes p.tables e below P (T.setTop (mkF m pc' L (v :: S)))) : Goes p.tables e below P (T.setTop (mkF m pc L (.int j :: .ref a :: S))) := by
  subst hp
  obtain ⟨cl, A1, q1, S1, N1, H1, G1⟩ := A
  have hin := inb_of S1 hj
  exact kk.on fun _ k => X.baloadBytes hx (j := j) (v := v) (by rw [eT]; exact A1.1) (State.isArrayOf_alike hZ.alike A1.2.1) A1.2.2 hin (H1.at hin hv) (g := mkF m pc L (.int j :: .ref a :: S)) rfl rfl hd _ k
theorem o_daload (X : Stand p l e R s m args below meth c T locs cells slots) (hx : p.tables.exec = Jvm.exec) (hZ : Z.Warmed39 s.vm) (eT : T.heap = h) {a : Addr} {kc : ClassId} {z : Int32} {vs : List Value} {dv v : Value} (A : Arv Z h a kc .double z vs dv) {j : Int32} (hj : ¬ j < 0 ∧ j < z) (hv : vs.getD j.toNatClampNeg dv = v) (hd : decode c.code pc = .ok (.daload, 1)) (hp : pc + 1 = pc') (kk : Goes p.tables e below P (T.setTop (mkF m pc' L (v :: S)))) : Goes p.tables e below P (T.setTop (mkF m pc L (.int j :: .ref a :: S))) := by
  subst hp
  obtain ⟨cl, A1, q1, S1, N1, H1, G1⟩ := A
  have hin := inb_of S1 hj
  exact kk.on fun _ k => X.daload hx (j := j) (v := v) (by rw [eT]; exact A1.1) (State.isArrayOf_alike hZ.alike A1.2.1) A1.2.2 hin (H1.at hin hv) (g := mkF m pc L (.int j :: .ref a :: S)) rfl rfl hd _ k
theorem o_newStr (X : Stand p l e R s m args below meth c T locs cells slots) (hx : p.tables.exec = Jvm.exec) (hZ : Z.Warmed39 s.vm) {own : String} {index : Nat} (hown : s.vm.findClass own = some m.cls) (w1 : (Cond.methodLink own index (⟨"java/lang/String", "<init>", "([C)V"⟩ : MethodName)).before a0 Z = true) (w2 : (Cond.instanceMethod (⟨"java/lang/String", "<init>", "([C)V"⟩ : MethodName)).before a0 Z = true) {bytes : ByteArray} (w3 : (Cond.code (⟨"java/lang/String", "<init>", "([C)V"⟩ : MethodName) bytes 2 none).before a0 Z = true)
    (hws : ∀ d ∈ StrChars.Road.words, d.before a0 Z = true) {kI : Nat} (wi : (Cond.instantiable "java/lang/String" kI).before a0 Z = true) (eT : T.heap = h) (hsize : L.size = c.maxLocals) {x b : Addr} {kC : ClassId} {cs : List Int32} {dv v0 c0 : Value} {z N : Int32} {n n0 : Nat} (hx0 : n0 ≤ x) (O : Old Z n0 h)
    (E : Exa Z h x "java/lang/String") (V : Fld Z h x "java/lang/String" "value" "[B" v0) (C : Fld Z h x "java/lang/String" "coder" "B" c0) (K : Arv Z h b kC .char N (cs.map Value.int) dv) (St : Sta Z Z.heap "java/lang/String" "COMPACT_STRINGS" "Z" (.int z)) (hz : ¬ z = 0) (hn : cs.length = n) (hN : N = Int32.ofNat n) (l0 : 0 < n) (l2 : n ≤ 4000) (hp : ∀ c ∈ cs, ¬ c < 0 ∧ ¬ (255 : Int32) < c)
    {rest : List Value} {W : Nat} (hW : (rest.map fun v => v.category).sum = W) (hd : decode c.code pc = .ok (.invokespecial index, 3)) (hfr : 4 ≤ R.frames) (hlo : W + 65 ≤ R.locals) (hc : cells + 1 ≤ R.cells) (hs : slots + n ≤ R.slots) (hc' : cells + 1 = cells') (hs' : slots + n = slots') (hpc : pc + 3 = pc')
    (kk : ∀ T' h' Lc t kb, Stand p l e R s m args below meth c T' (locs ++ Lc) cells' slots' → T'.heap = h' → Fr n0 Lc → Keep h h' [x] → Exa Z h' x "java/lang/String" → Fld Z h' x "java/lang/String" "coder" "B" (.int 0) → h.size ≤ t → Fld Z h' x "java/lang/String" "value" "[B" (.ref t) → Arv Z h' t kb .byte N ((cs.map fun c => c.toInt8.toInt32).map Value.int) (.int 0) → Goes p.tables e below P (T'.setTop (mkF m pc' L rest))) :
    Goes p.tables e below P (T.setTop (mkF m pc L (.ref b :: .ref x :: rest))) := by
  subst hpc hc' hs'
  have pd : parseMethodDescriptor "([C)V" = some ⟨[(.array .char)], none⟩ := by decide +kernel
  obtain ⟨_, _, ⟨T1, L1, k1, n1⟩, -, X1, ⟨Lc, hQ, l1, y1, z1⟩, st⟩ := X.specialBack hx (y := (⟨"java/lang/String", "<init>", "([C)V"⟩ : MethodName)) rfl hown (mvT hZ w1) (mvT hZ w2) (mvT hZ w3) (by decide) (StrChars.Road.backV (W := W) hZ hws wi hx0 (O.1 ▸ O.2.1) E V C K (Sta.ext O.2 St) hz hn hN l0 l2 hp rfl hfr hlo) (g := mkF m pc L (.ref b :: .ref x :: rest)) rfl hsize (Steps.refl _) (a := x) (argsL := [.ref b]) (rest := rest) (lenOf pd rfl) rfl (by rw [← hW]; show 2 * 0 + _ ≤ _; omega) hd (fun _ _ => ⟨rfl, eT, hc, hs⟩)
  dsimp only [Pt.U, Pt.locs, Pt.cells, Pt.slots] at X1 l1 y1 z1 st hQ
  subst l1 y1 z1
  obtain ⟨rfl, q1, q2, q3, q4, t, kb, q5, q6, q7, q8, q9⟩ := hQ
  exact (kk _ _ _ t kb X1 rfl q1 q2 q3 q4 q6 q8 q9).to st
end Own
theorem own_ws {Z : State} {a0 : Array Value} (hw : ∀ d ∈ tables_1, d.before a0 Z = true) : ∀ d ∈ StrChars.Road.words, d.before a0 Z = true := fun d hd => hw d ((by decide +kernel : ∀ d ∈ StrChars.Road.words, d ∈ tables_1) d hd)
theorem own_ch (x : Int32) : ¬ nar .char ((x &&& (255 : Int32)).toUInt32.toUInt16.toUInt32.toInt32) < 0 ∧ ¬ (255 : Int32) < nar .char ((x &&& (255 : Int32)).toUInt32.toUInt16.toUInt32.toInt32) := by
  have t : ∀ k : Fin 256, ¬ nar .char ((Int32.ofNat k.val).toUInt32.toUInt16.toUInt32.toInt32) < 0 ∧ ¬ (255 : Int32) < nar .char ((Int32.ofNat k.val).toUInt32.toUInt16.toUInt32.toInt32) := by decide +kernel
  have h : (x &&& 255).toBitVec.toNat < 256 := by
    simp only [Int32.toBitVec_and, BitVec.toNat_and]
    exact Nat.lt_succ_of_le Nat.and_le_right
  have e : (x &&& 255) = Int32.ofNat (x &&& 255).toBitVec.toNat := by
    apply Int32.toBitVec_inj.mp
    show _ = BitVec.ofNat 32 _
    rw [BitVec.ofNat_toNat]; simp
  rw [e]
  exact t ⟨_, h⟩
theorem own_all0 : ∀ c ∈ ([] : List Int32), ¬ c < 0 ∧ ¬ (255 : Int32) < c := fun c hc => by cases hc
theorem own_allS {x : Int32} {r : List Int32} (h : ¬ x < 0 ∧ ¬ (255 : Int32) < x) (t : ∀ c ∈ r, ¬ c < 0 ∧ ¬ (255 : Int32) < c) : ∀ c ∈ x :: r, ¬ c < 0 ∧ ¬ (255 : Int32) < c := fun c hc => by
  rcases List.mem_cons.mp hc with rfl | q
  · exact h
  · exact t c q
theorem wd0 {Z : State} {a0 : Array Value} (hw : ∀ d ∈ tables_1, d.before a0 Z = true) : (Jvm.Cond.arrayClass Jvm.ClassFile.FieldType.char).before a0 Z = true := hw _ (List.mem_of_getElem? (i := 0) rfl)
theorem wd1 {Z : State} {a0 : Array Value} (hw : ∀ d ∈ tables_1, d.before a0 Z = true) : (Jvm.Cond.classLink "com/example/fieldwise/fieldwise/batch/BatchPartUnreadablePinLaw" (7 : Nat) "java/lang/String").before a0 Z = true := hw _ (List.mem_of_getElem? (i := 1) rfl)
theorem wd2 {Z : State} {a0 : Array Value} (hw : ∀ d ∈ tables_1, d.before a0 Z = true) : (Jvm.Cond.instantiable "java/lang/String" (4 : Nat)).before a0 Z = true := hw _ (List.mem_of_getElem? (i := 2) rfl)
theorem wd3 {Z : State} {a0 : Array Value} (hw : ∀ d ∈ tables_1, d.before a0 Z = true) : (Jvm.Cond.initialized "java/lang/String").before a0 Z = true := hw _ (List.mem_of_getElem? (i := 3) rfl)
theorem wd4 {Z : State} {a0 : Array Value} (hw : ∀ d ∈ tables_1, d.before a0 Z = true) : (Jvm.Cond.methodLink "com/example/fieldwise/fieldwise/batch/BatchPartUnreadablePinLaw" (9 : Nat) ({ cls := "java/lang/String", name := "<init>", desc := "([C)V" } : Jvm.MethodName)).before a0 Z = true := hw _ (List.mem_of_getElem? (i := 4) rfl)
theorem wd5 {Z : State} {a0 : Array Value} (hw : ∀ d ∈ tables_1, d.before a0 Z = true) : (Jvm.Cond.instanceMethod ({ cls := "java/lang/String", name := "<init>", desc := "([C)V" } : Jvm.MethodName)).before a0 Z = true := hw _ (List.mem_of_getElem? (i := 5) rfl)
theorem wd6 {Z : State} {a0 : Array Value} (hw : ∀ d ∈ tables_1, d.before a0 Z = true) : (Jvm.Cond.code ({ cls := "java/lang/String", name := "<init>", desc := "([C)V" } : Jvm.MethodName) jdk_42_method_3_code (2 : Nat) (Option.none : Option Jvm.ClassFile.FieldType)).before a0 Z = true := hw _ (List.mem_of_getElem? (i := 6) rfl)
theorem wd12 {Z : State} {a0 : Array Value} (hw : ∀ d ∈ tables_1, d.before a0 Z = true) : (Jvm.Cond.instanceMethod ({ cls := "java/lang/Object", name := "<init>", desc := "()V" } : Jvm.MethodName)).before a0 Z = true := hw _ (List.mem_of_getElem? (i := 12) rfl)
theorem wd13 {Z : State} {a0 : Array Value} (hw : ∀ d ∈ tables_1, d.before a0 Z = true) : (Jvm.Cond.code ({ cls := "java/lang/Object", name := "<init>", desc := "()V" } : Jvm.MethodName) object_method_1_code (1 : Nat) (Option.none : Option Jvm.ClassFile.FieldType)).before a0 Z = true := hw _ (List.mem_of_getElem? (i := 13) rfl)
theorem wd27 {Z : State} {a0 : Array Value} (hw : ∀ d ∈ tables_1, d.before a0 Z = true) : (Jvm.Cond.laysFinal "java/lang/String" "java/lang/String" "coder" "B").before a0 Z = true := hw _ (List.mem_of_getElem? (i := 27) rfl)
theorem wd29 {Z : State} {a0 : Array Value} (hw : ∀ d ∈ tables_1, d.before a0 Z = true) : (Jvm.Cond.laysFinal "java/lang/String" "java/lang/String" "value" "[B").before a0 Z = true := hw _ (List.mem_of_getElem? (i := 29) rfl)
theorem wd30 {Z : State} {a0 : Array Value} (hw : ∀ d ∈ tables_1, d.before a0 Z = true) : (Jvm.Cond.methodLink "com/example/fieldwise/fieldwise/batch/BatchPartUnreadablePinLaw" (12 : Nat) ({ cls := "com/example/fieldwise/fieldwise/batch/BatchPart", name := "unreadable", desc := "(Ljava/lang/String;ILjava/lang/String;)Lcom/example/fieldwise/fieldwise/batch/BatchPart;" } : Jvm.MethodName)).before a0 Z = true := hw _ (List.mem_of_getElem? (i := 30) rfl)
theorem wd31 {Z : State} {a0 : Array Value} (hw : ∀ d ∈ tables_1, d.before a0 Z = true) : (Jvm.Cond.static ({ cls := "com/example/fieldwise/fieldwise/batch/BatchPart", name := "unreadable", desc := "(Ljava/lang/String;ILjava/lang/String;)Lcom/example/fieldwise/fieldwise/batch/BatchPart;" } : Jvm.MethodName)).before a0 Z = true := hw _ (List.mem_of_getElem? (i := 31) rfl)
theorem wd32 {Z : State} {a0 : Array Value} (hw : ∀ d ∈ tables_1, d.before a0 Z = true) : (Jvm.Cond.initialized "com/example/fieldwise/fieldwise/batch/BatchPart").before a0 Z = true := hw _ (List.mem_of_getElem? (i := 32) rfl)
theorem wd33 {Z : State} {a0 : Array Value} (hw : ∀ d ∈ tables_1, d.before a0 Z = true) : (Jvm.Cond.code ({ cls := "com/example/fieldwise/fieldwise/batch/BatchPart", name := "unreadable", desc := "(Ljava/lang/String;ILjava/lang/String;)Lcom/example/fieldwise/fieldwise/batch/BatchPart;" } : Jvm.MethodName) prog_3_method_3_code (3 : Nat) (Option.some (Jvm.ClassFile.FieldType.object "com/example/fieldwise/fieldwise/batch/BatchPart"))).before a0 Z = true := hw _ (List.mem_of_getElem? (i := 33) rfl)
theorem wd34 {Z : State} {a0 : Array Value} (hw : ∀ d ∈ tables_1, d.before a0 Z = true) : (Jvm.Cond.classLink "com/example/fieldwise/fieldwise/batch/BatchPart" (8 : Nat) "com/example/fieldwise/fieldwise/batch/BatchPart").before a0 Z = true := hw _ (List.mem_of_getElem? (i := 34) rfl)
theorem wd35 {Z : State} {a0 : Array Value} (hw : ∀ d ∈ tables_1, d.before a0 Z = true) : (Jvm.Cond.instantiable "com/example/fieldwise/fieldwise/batch/BatchPart" (7 : Nat)).before a0 Z = true := hw _ (List.mem_of_getElem? (i := 35) rfl)
theorem wd36 {Z : State} {a0 : Array Value} (hw : ∀ d ∈ tables_1, d.before a0 Z = true) : (Jvm.Cond.methodLink "com/example/fieldwise/fieldwise/batch/BatchPart" (43 : Nat) ({ cls := "java/util/Map", name := "of", desc := "()Ljava/util/Map;" } : Jvm.MethodName)).before a0 Z = true := hw _ (List.mem_of_getElem? (i := 36) rfl)
theorem wd37 {Z : State} {a0 : Array Value} (hw : ∀ d ∈ tables_1, d.before a0 Z = true) : (Jvm.Cond.static ({ cls := "java/util/Map", name := "of", desc := "()Ljava/util/Map;" } : Jvm.MethodName)).before a0 Z = true := hw _ (List.mem_of_getElem? (i := 37) rfl)
theorem wd38 {Z : State} {a0 : Array Value} (hw : ∀ d ∈ tables_1, d.before a0 Z = true) : (Jvm.Cond.initialized "java/util/Map").before a0 Z = true := hw _ (List.mem_of_getElem? (i := 38) rfl)
theorem wd39 {Z : State} {a0 : Array Value} (hw : ∀ d ∈ tables_1, d.before a0 Z = true) : (Jvm.Cond.code ({ cls := "java/util/Map", name := "of", desc := "()Ljava/util/Map;" } : Jvm.MethodName) jdk_72_method_26_code (0 : Nat) (Option.some (Jvm.ClassFile.FieldType.object "java/util/Map"))).before a0 Z = true := hw _ (List.mem_of_getElem? (i := 39) rfl)
theorem wd40 {Z : State} {a0 : Array Value} (hw : ∀ d ∈ tables_1, d.before a0 Z = true) : (Jvm.Cond.fieldLink "java/util/Map" (81 : Nat) "java/util/ImmutableCollections" "EMPTY_MAP" "Ljava/util/ImmutableCollections$MapN;").before a0 Z = true := hw _ (List.mem_of_getElem? (i := 40) rfl)
theorem wd42 {Z : State} {a0 : Array Value} (hw : ∀ d ∈ tables_1, d.before a0 Z = true) : (Jvm.Cond.methodLink "com/example/fieldwise/fieldwise/batch/BatchPart" (40 : Nat) ({ cls := "com/example/fieldwise/fieldwise/batch/BatchPart", name := "<init>", desc := "(Ljava/lang/String;Ljava/lang/String;ILjava/lang/String;Ljava/lang/String;Ljava/util/Map;Lcom/example/fieldwise/fieldwise/io/HeldOutput;)V" } : Jvm.MethodName)).before a0 Z = true := hw _ (List.mem_of_getElem? (i := 42) rfl)
theorem wd43 {Z : State} {a0 : Array Value} (hw : ∀ d ∈ tables_1, d.before a0 Z = true) : (Jvm.Cond.instanceMethod ({ cls := "com/example/fieldwise/fieldwise/batch/BatchPart", name := "<init>", desc := "(Ljava/lang/String;Ljava/lang/String;ILjava/lang/String;Ljava/lang/String;Ljava/util/Map;Lcom/example/fieldwise/fieldwise/io/HeldOutput;)V" } : Jvm.MethodName)).before a0 Z = true := hw _ (List.mem_of_getElem? (i := 43) rfl)
theorem wd44 {Z : State} {a0 : Array Value} (hw : ∀ d ∈ tables_1, d.before a0 Z = true) : (Jvm.Cond.code ({ cls := "com/example/fieldwise/fieldwise/batch/BatchPart", name := "<init>", desc := "(Ljava/lang/String;Ljava/lang/String;ILjava/lang/String;Ljava/lang/String;Ljava/util/Map;Lcom/example/fieldwise/fieldwise/io/HeldOutput;)V" } : Jvm.MethodName) prog_3_method_1_code (8 : Nat) (Option.none : Option Jvm.ClassFile.FieldType)).before a0 Z = true := hw _ (List.mem_of_getElem? (i := 44) rfl)
theorem wd45 {Z : State} {a0 : Array Value} (hw : ∀ d ∈ tables_1, d.before a0 Z = true) : (Jvm.Cond.methodLink "com/example/fieldwise/fieldwise/batch/BatchPart" (1 : Nat) ({ cls := "java/lang/Object", name := "<init>", desc := "()V" } : Jvm.MethodName)).before a0 Z = true := hw _ (List.mem_of_getElem? (i := 45) rfl)
theorem wd46 {Z : State} {a0 : Array Value} (hw : ∀ d ∈ tables_1, d.before a0 Z = true) : (Jvm.Cond.fieldLink "com/example/fieldwise/fieldwise/batch/BatchPart" (7 : Nat) "com/example/fieldwise/fieldwise/batch/BatchPart" "mContentId" "Ljava/lang/String;").before a0 Z = true := hw _ (List.mem_of_getElem? (i := 46) rfl)
theorem wd47 {Z : State} {a0 : Array Value} (hw : ∀ d ∈ tables_1, d.before a0 Z = true) : (Jvm.Cond.laysFinal "com/example/fieldwise/fieldwise/batch/BatchPart" "com/example/fieldwise/fieldwise/batch/BatchPart" "mContentId" "Ljava/lang/String;").before a0 Z = true := hw _ (List.mem_of_getElem? (i := 47) rfl)
theorem wd48 {Z : State} {a0 : Array Value} (hw : ∀ d ∈ tables_1, d.before a0 Z = true) : (Jvm.Cond.fieldLink "com/example/fieldwise/fieldwise/batch/BatchPart" (13 : Nat) "com/example/fieldwise/fieldwise/batch/BatchPart" "mProblem" "Ljava/lang/String;").before a0 Z = true := hw _ (List.mem_of_getElem? (i := 48) rfl)
theorem wd49 {Z : State} {a0 : Array Value} (hw : ∀ d ∈ tables_1, d.before a0 Z = true) : (Jvm.Cond.laysFinal "com/example/fieldwise/fieldwise/batch/BatchPart" "com/example/fieldwise/fieldwise/batch/BatchPart" "mProblem" "Ljava/lang/String;").before a0 Z = true := hw _ (List.mem_of_getElem? (i := 49) rfl)
theorem wd50 {Z : State} {a0 : Array Value} (hw : ∀ d ∈ tables_1, d.before a0 Z = true) : (Jvm.Cond.fieldLink "com/example/fieldwise/fieldwise/batch/BatchPart" (16 : Nat) "com/example/fieldwise/fieldwise/batch/BatchPart" "mProblemStatus" "I").before a0 Z = true := hw _ (List.mem_of_getElem? (i := 50) rfl)
theorem wd51 {Z : State} {a0 : Array Value} (hw : ∀ d ∈ tables_1, d.before a0 Z = true) : (Jvm.Cond.laysFinal "com/example/fieldwise/fieldwise/batch/BatchPart" "com/example/fieldwise/fieldwise/batch/BatchPart" "mProblemStatus" "I").before a0 Z = true := hw _ (List.mem_of_getElem? (i := 51) rfl)
theorem wd52 {Z : State} {a0 : Array Value} (hw : ∀ d ∈ tables_1, d.before a0 Z = true) : (Jvm.Cond.fieldLink "com/example/fieldwise/fieldwise/batch/BatchPart" (20 : Nat) "com/example/fieldwise/fieldwise/batch/BatchPart" "mMethod" "Ljava/lang/String;").before a0 Z = true := hw _ (List.mem_of_getElem? (i := 52) rfl)
theorem wd53 {Z : State} {a0 : Array Value} (hw : ∀ d ∈ tables_1, d.before a0 Z = true) : (Jvm.Cond.laysFinal "com/example/fieldwise/fieldwise/batch/BatchPart" "com/example/fieldwise/fieldwise/batch/BatchPart" "mMethod" "Ljava/lang/String;").before a0 Z = true := hw _ (List.mem_of_getElem? (i := 53) rfl)
theorem wd54 {Z : State} {a0 : Array Value} (hw : ∀ d ∈ tables_1, d.before a0 Z = true) : (Jvm.Cond.fieldLink "com/example/fieldwise/fieldwise/batch/BatchPart" (23 : Nat) "com/example/fieldwise/fieldwise/batch/BatchPart" "mTarget" "Ljava/lang/String;").before a0 Z = true := hw _ (List.mem_of_getElem? (i := 54) rfl)
theorem wd55 {Z : State} {a0 : Array Value} (hw : ∀ d ∈ tables_1, d.before a0 Z = true) : (Jvm.Cond.laysFinal "com/example/fieldwise/fieldwise/batch/BatchPart" "com/example/fieldwise/fieldwise/batch/BatchPart" "mTarget" "Ljava/lang/String;").before a0 Z = true := hw _ (List.mem_of_getElem? (i := 55) rfl)
theorem wd56 {Z : State} {a0 : Array Value} (hw : ∀ d ∈ tables_1, d.before a0 Z = true) : (Jvm.Cond.fieldLink "com/example/fieldwise/fieldwise/batch/BatchPart" (26 : Nat) "com/example/fieldwise/fieldwise/batch/BatchPart" "mHeaders" "Ljava/util/Map;").before a0 Z = true := hw _ (List.mem_of_getElem? (i := 56) rfl)
theorem wd57 {Z : State} {a0 : Array Value} (hw : ∀ d ∈ tables_1, d.before a0 Z = true) : (Jvm.Cond.laysFinal "com/example/fieldwise/fieldwise/batch/BatchPart" "com/example/fieldwise/fieldwise/batch/BatchPart" "mHeaders" "Ljava/util/Map;").before a0 Z = true := hw _ (List.mem_of_getElem? (i := 57) rfl)
theorem wd58 {Z : State} {a0 : Array Value} (hw : ∀ d ∈ tables_1, d.before a0 Z = true) : (Jvm.Cond.fieldLink "com/example/fieldwise/fieldwise/batch/BatchPart" (30 : Nat) "com/example/fieldwise/fieldwise/batch/BatchPart" "mBody" "Lcom/example/fieldwise/fieldwise/io/HeldOutput;").before a0 Z = true := hw _ (List.mem_of_getElem? (i := 58) rfl)
theorem wd59 {Z : State} {a0 : Array Value} (hw : ∀ d ∈ tables_1, d.before a0 Z = true) : (Jvm.Cond.laysFinal "com/example/fieldwise/fieldwise/batch/BatchPart" "com/example/fieldwise/fieldwise/batch/BatchPart" "mBody" "Lcom/example/fieldwise/fieldwise/io/HeldOutput;").before a0 Z = true := hw _ (List.mem_of_getElem? (i := 59) rfl)
theorem wd60 {Z : State} {a0 : Array Value} (hw : ∀ d ∈ tables_1, d.before a0 Z = true) : (Jvm.Cond.methodLink "com/example/fieldwise/fieldwise/batch/BatchPartUnreadablePinLaw" (18 : Nat) ({ cls := "com/example/fieldwise/fieldwise/batch/BatchPart", name := "contentId", desc := "()Ljava/lang/String;" } : Jvm.MethodName)).before a0 Z = true := hw _ (List.mem_of_getElem? (i := 60) rfl)
theorem wd61 {Z : State} {a0 : Array Value} (hw : ∀ d ∈ tables_1, d.before a0 Z = true) : (Jvm.Cond.declares ({ cls := "com/example/fieldwise/fieldwise/batch/BatchPart", name := "contentId", desc := "()Ljava/lang/String;" } : Jvm.MethodName)).before a0 Z = true := hw _ (List.mem_of_getElem? (i := 61) rfl)
theorem wd62 {Z : State} {a0 : Array Value} (hw : ∀ d ∈ tables_1, d.before a0 Z = true) : (Jvm.Cond.instanceMethod ({ cls := "com/example/fieldwise/fieldwise/batch/BatchPart", name := "contentId", desc := "()Ljava/lang/String;" } : Jvm.MethodName)).before a0 Z = true := hw _ (List.mem_of_getElem? (i := 62) rfl)
theorem wd63 {Z : State} {a0 : Array Value} (hw : ∀ d ∈ tables_1, d.before a0 Z = true) : (Jvm.Cond.selects "com/example/fieldwise/fieldwise/batch/BatchPart" ({ cls := "com/example/fieldwise/fieldwise/batch/BatchPart", name := "contentId", desc := "()Ljava/lang/String;" } : Jvm.MethodName) ({ cls := "com/example/fieldwise/fieldwise/batch/BatchPart", name := "contentId", desc := "()Ljava/lang/String;" } : Jvm.MethodName)).before a0 Z = true := hw _ (List.mem_of_getElem? (i := 63) rfl)
theorem wd64 {Z : State} {a0 : Array Value} (hw : ∀ d ∈ tables_1, d.before a0 Z = true) : (Jvm.Cond.code ({ cls := "com/example/fieldwise/fieldwise/batch/BatchPart", name := "contentId", desc := "()Ljava/lang/String;" } : Jvm.MethodName) prog_3_method_4_code (1 : Nat) (Option.some (Jvm.ClassFile.FieldType.object "java/lang/String"))).before a0 Z = true := hw _ (List.mem_of_getElem? (i := 64) rfl)
theorem wd65 {Z : State} {a0 : Array Value} (hw : ∀ d ∈ tables_1, d.before a0 Z = true) : (Jvm.Cond.methodLink "com/example/fieldwise/fieldwise/batch/BatchPartUnreadablePinLaw" (22 : Nat) ({ cls := "com/example/fieldwise/fieldwise/batch/BatchPart", name := "problem", desc := "()Ljava/lang/String;" } : Jvm.MethodName)).before a0 Z = true := hw _ (List.mem_of_getElem? (i := 65) rfl)
theorem wd66 {Z : State} {a0 : Array Value} (hw : ∀ d ∈ tables_1, d.before a0 Z = true) : (Jvm.Cond.declares ({ cls := "com/example/fieldwise/fieldwise/batch/BatchPart", name := "problem", desc := "()Ljava/lang/String;" } : Jvm.MethodName)).before a0 Z = true := hw _ (List.mem_of_getElem? (i := 66) rfl)
theorem wd67 {Z : State} {a0 : Array Value} (hw : ∀ d ∈ tables_1, d.before a0 Z = true) : (Jvm.Cond.instanceMethod ({ cls := "com/example/fieldwise/fieldwise/batch/BatchPart", name := "problem", desc := "()Ljava/lang/String;" } : Jvm.MethodName)).before a0 Z = true := hw _ (List.mem_of_getElem? (i := 67) rfl)
theorem wd68 {Z : State} {a0 : Array Value} (hw : ∀ d ∈ tables_1, d.before a0 Z = true) : (Jvm.Cond.selects "com/example/fieldwise/fieldwise/batch/BatchPart" ({ cls := "com/example/fieldwise/fieldwise/batch/BatchPart", name := "problem", desc := "()Ljava/lang/String;" } : Jvm.MethodName) ({ cls := "com/example/fieldwise/fieldwise/batch/BatchPart", name := "problem", desc := "()Ljava/lang/String;" } : Jvm.MethodName)).before a0 Z = true := hw _ (List.mem_of_getElem? (i := 68) rfl)
theorem wd69 {Z : State} {a0 : Array Value} (hw : ∀ d ∈ tables_1, d.before a0 Z = true) : (Jvm.Cond.code ({ cls := "com/example/fieldwise/fieldwise/batch/BatchPart", name := "problem", desc := "()Ljava/lang/String;" } : Jvm.MethodName) prog_3_method_5_code (1 : Nat) (Option.some (Jvm.ClassFile.FieldType.object "java/lang/String"))).before a0 Z = true := hw _ (List.mem_of_getElem? (i := 69) rfl)
theorem wd70 {Z : State} {a0 : Array Value} (hw : ∀ d ∈ tables_1, d.before a0 Z = true) : (Jvm.Cond.methodLink "com/example/fieldwise/fieldwise/batch/BatchPartUnreadablePinLaw" (25 : Nat) ({ cls := "com/example/fieldwise/fieldwise/batch/BatchPart", name := "problemStatus", desc := "()I" } : Jvm.MethodName)).before a0 Z = true := hw _ (List.mem_of_getElem? (i := 70) rfl)
theorem wd71 {Z : State} {a0 : Array Value} (hw : ∀ d ∈ tables_1, d.before a0 Z = true) : (Jvm.Cond.declares ({ cls := "com/example/fieldwise/fieldwise/batch/BatchPart", name := "problemStatus", desc := "()I" } : Jvm.MethodName)).before a0 Z = true := hw _ (List.mem_of_getElem? (i := 71) rfl)
theorem wd72 {Z : State} {a0 : Array Value} (hw : ∀ d ∈ tables_1, d.before a0 Z = true) : (Jvm.Cond.instanceMethod ({ cls := "com/example/fieldwise/fieldwise/batch/BatchPart", name := "problemStatus", desc := "()I" } : Jvm.MethodName)).before a0 Z = true := hw _ (List.mem_of_getElem? (i := 72) rfl)
theorem wd73 {Z : State} {a0 : Array Value} (hw : ∀ d ∈ tables_1, d.before a0 Z = true) : (Jvm.Cond.selects "com/example/fieldwise/fieldwise/batch/BatchPart" ({ cls := "com/example/fieldwise/fieldwise/batch/BatchPart", name := "problemStatus", desc := "()I" } : Jvm.MethodName) ({ cls := "com/example/fieldwise/fieldwise/batch/BatchPart", name := "problemStatus", desc := "()I" } : Jvm.MethodName)).before a0 Z = true := hw _ (List.mem_of_getElem? (i := 73) rfl)
theorem wd74 {Z : State} {a0 : Array Value} (hw : ∀ d ∈ tables_1, d.before a0 Z = true) : (Jvm.Cond.code ({ cls := "com/example/fieldwise/fieldwise/batch/BatchPart", name := "problemStatus", desc := "()I" } : Jvm.MethodName) prog_3_method_6_code (1 : Nat) (Option.some Jvm.ClassFile.FieldType.int)).before a0 Z = true := hw _ (List.mem_of_getElem? (i := 74) rfl)
theorem wd75 {Z : State} {a0 : Array Value} (hw : ∀ d ∈ tables_1, d.before a0 Z = true) : (Jvm.Cond.methodLink "com/example/fieldwise/fieldwise/batch/BatchPartUnreadablePinLaw" (29 : Nat) ({ cls := "com/example/fieldwise/fieldwise/batch/BatchPart", name := "method", desc := "()Ljava/lang/String;" } : Jvm.MethodName)).before a0 Z = true := hw _ (List.mem_of_getElem? (i := 75) rfl)
theorem wd76 {Z : State} {a0 : Array Value} (hw : ∀ d ∈ tables_1, d.before a0 Z = true) : (Jvm.Cond.declares ({ cls := "com/example/fieldwise/fieldwise/batch/BatchPart", name := "method", desc := "()Ljava/lang/String;" } : Jvm.MethodName)).before a0 Z = true := hw _ (List.mem_of_getElem? (i := 76) rfl)
theorem wd77 {Z : State} {a0 : Array Value} (hw : ∀ d ∈ tables_1, d.before a0 Z = true) : (Jvm.Cond.instanceMethod ({ cls := "com/example/fieldwise/fieldwise/batch/BatchPart", name := "method", desc := "()Ljava/lang/String;" } : Jvm.MethodName)).before a0 Z = true := hw _ (List.mem_of_getElem? (i := 77) rfl)
theorem wd78 {Z : State} {a0 : Array Value} (hw : ∀ d ∈ tables_1, d.before a0 Z = true) : (Jvm.Cond.selects "com/example/fieldwise/fieldwise/batch/BatchPart" ({ cls := "com/example/fieldwise/fieldwise/batch/BatchPart", name := "method", desc := "()Ljava/lang/String;" } : Jvm.MethodName) ({ cls := "com/example/fieldwise/fieldwise/batch/BatchPart", name := "method", desc := "()Ljava/lang/String;" } : Jvm.MethodName)).before a0 Z = true := hw _ (List.mem_of_getElem? (i := 78) rfl)
theorem wd79 {Z : State} {a0 : Array Value} (hw : ∀ d ∈ tables_1, d.before a0 Z = true) : (Jvm.Cond.code ({ cls := "com/example/fieldwise/fieldwise/batch/BatchPart", name := "method", desc := "()Ljava/lang/String;" } : Jvm.MethodName) prog_3_method_7_code (1 : Nat) (Option.some (Jvm.ClassFile.FieldType.object "java/lang/String"))).before a0 Z = true := hw _ (List.mem_of_getElem? (i := 79) rfl)
theorem wd80 {Z : State} {a0 : Array Value} (hw : ∀ d ∈ tables_1, d.before a0 Z = true) : (Jvm.Cond.methodLink "com/example/fieldwise/fieldwise/batch/BatchPartUnreadablePinLaw" (32 : Nat) ({ cls := "com/example/fieldwise/fieldwise/batch/BatchPart", name := "target", desc := "()Ljava/lang/String;" } : Jvm.MethodName)).before a0 Z = true := hw _ (List.mem_of_getElem? (i := 80) rfl)
theorem wd81 {Z : State} {a0 : Array Value} (hw : ∀ d ∈ tables_1, d.before a0 Z = true) : (Jvm.Cond.declares ({ cls := "com/example/fieldwise/fieldwise/batch/BatchPart", name := "target", desc := "()Ljava/lang/String;" } : Jvm.MethodName)).before a0 Z = true := hw _ (List.mem_of_getElem? (i := 81) rfl)
theorem wd82 {Z : State} {a0 : Array Value} (hw : ∀ d ∈ tables_1, d.before a0 Z = true) : (Jvm.Cond.instanceMethod ({ cls := "com/example/fieldwise/fieldwise/batch/BatchPart", name := "target", desc := "()Ljava/lang/String;" } : Jvm.MethodName)).before a0 Z = true := hw _ (List.mem_of_getElem? (i := 82) rfl)
theorem wd83 {Z : State} {a0 : Array Value} (hw : ∀ d ∈ tables_1, d.before a0 Z = true) : (Jvm.Cond.selects "com/example/fieldwise/fieldwise/batch/BatchPart" ({ cls := "com/example/fieldwise/fieldwise/batch/BatchPart", name := "target", desc := "()Ljava/lang/String;" } : Jvm.MethodName) ({ cls := "com/example/fieldwise/fieldwise/batch/BatchPart", name := "target", desc := "()Ljava/lang/String;" } : Jvm.MethodName)).before a0 Z = true := hw _ (List.mem_of_getElem? (i := 83) rfl)
theorem wd84 {Z : State} {a0 : Array Value} (hw : ∀ d ∈ tables_1, d.before a0 Z = true) : (Jvm.Cond.code ({ cls := "com/example/fieldwise/fieldwise/batch/BatchPart", name := "target", desc := "()Ljava/lang/String;" } : Jvm.MethodName) prog_3_method_8_code (1 : Nat) (Option.some (Jvm.ClassFile.FieldType.object "java/lang/String"))).before a0 Z = true := hw _ (List.mem_of_getElem? (i := 84) rfl)
theorem wd85 {Z : State} {a0 : Array Value} (hw : ∀ d ∈ tables_1, d.before a0 Z = true) : (Jvm.Cond.methodLink "com/example/fieldwise/fieldwise/batch/BatchPartUnreadablePinLaw" (35 : Nat) ({ cls := "com/example/fieldwise/fieldwise/batch/BatchPart", name := "bodyLength", desc := "()J" } : Jvm.MethodName)).before a0 Z = true := hw _ (List.mem_of_getElem? (i := 85) rfl)
theorem wd86 {Z : State} {a0 : Array Value} (hw : ∀ d ∈ tables_1, d.before a0 Z = true) : (Jvm.Cond.declares ({ cls := "com/example/fieldwise/fieldwise/batch/BatchPart", name := "bodyLength", desc := "()J" } : Jvm.MethodName)).before a0 Z = true := hw _ (List.mem_of_getElem? (i := 86) rfl)
theorem wd87 {Z : State} {a0 : Array Value} (hw : ∀ d ∈ tables_1, d.before a0 Z = true) : (Jvm.Cond.instanceMethod ({ cls := "com/example/fieldwise/fieldwise/batch/BatchPart", name := "bodyLength", desc := "()J" } : Jvm.MethodName)).before a0 Z = true := hw _ (List.mem_of_getElem? (i := 87) rfl)
theorem wd88 {Z : State} {a0 : Array Value} (hw : ∀ d ∈ tables_1, d.before a0 Z = true) : (Jvm.Cond.selects "com/example/fieldwise/fieldwise/batch/BatchPart" ({ cls := "com/example/fieldwise/fieldwise/batch/BatchPart", name := "bodyLength", desc := "()J" } : Jvm.MethodName) ({ cls := "com/example/fieldwise/fieldwise/batch/BatchPart", name := "bodyLength", desc := "()J" } : Jvm.MethodName)).before a0 Z = true := hw _ (List.mem_of_getElem? (i := 88) rfl)
theorem wd89 {Z : State} {a0 : Array Value} (hw : ∀ d ∈ tables_1, d.before a0 Z = true) : (Jvm.Cond.code ({ cls := "com/example/fieldwise/fieldwise/batch/BatchPart", name := "bodyLength", desc := "()J" } : Jvm.MethodName) prog_3_method_10_code (1 : Nat) (Option.some Jvm.ClassFile.FieldType.long)).before a0 Z = true := hw _ (List.mem_of_getElem? (i := 89) rfl)
theorem d7_0 : decode prog_3_method_3_code 0 = .ok (.new 8, 3) := by decide +kernel
theorem d7_3 : decode prog_3_method_3_code 3 = .ok (.dup, 1) := by decide +kernel
theorem d7_4 : decode prog_3_method_3_code 4 = .ok (.aload_n 0, 1) := by decide +kernel
theorem d7_5 : decode prog_3_method_3_code 5 = .ok (.aload_n 2, 1) := by decide +kernel
theorem d7_6 : decode prog_3_method_3_code 6 = .ok (.iload_n 1, 1) := by decide +kernel
theorem d7_7 : decode prog_3_method_3_code 7 = .ok (.aconst_null, 1) := by decide +kernel
theorem d7_8 : decode prog_3_method_3_code 8 = .ok (.aconst_null, 1) := by decide +kernel
theorem d7_9 : decode prog_3_method_3_code 9 = .ok (.invokestatic 43, 3) := by decide +kernel
theorem d7_12 : decode prog_3_method_3_code 12 = .ok (.aconst_null, 1) := by decide +kernel
theorem d7_13 : decode prog_3_method_3_code 13 = .ok (.invokespecial 40, 3) := by decide +kernel
theorem d7_16 : decode prog_3_method_3_code 16 = .ok (.areturn, 1) := by decide +kernel
theorem d8_0 : decode jdk_72_method_26_code 0 = .ok (.getstatic 81, 3) := by decide +kernel
theorem d8_3 : decode jdk_72_method_26_code 3 = .ok (.areturn, 1) := by decide +kernel
theorem d9_0 : decode prog_3_method_1_code 0 = .ok (.aload_n 0, 1) := by decide +kernel
theorem d9_1 : decode prog_3_method_1_code 1 = .ok (.invokespecial 1, 3) := by decide +kernel
theorem d9_4 : decode prog_3_method_1_code 4 = .ok (.aload_n 0, 1) := by decide +kernel
theorem d9_5 : decode prog_3_method_1_code 5 = .ok (.aload_n 1, 1) := by decide +kernel
theorem d9_6 : decode prog_3_method_1_code 6 = .ok (.putfield 7, 3) := by decide +kernel
theorem d9_9 : decode prog_3_method_1_code 9 = .ok (.aload_n 0, 1) := by decide +kernel
theorem d9_10 : decode prog_3_method_1_code 10 = .ok (.aload_n 2, 1) := by decide +kernel
theorem d9_11 : decode prog_3_method_1_code 11 = .ok (.putfield 13, 3) := by decide +kernel
theorem d9_14 : decode prog_3_method_1_code 14 = .ok (.aload_n 0, 1) := by decide +kernel
theorem d9_15 : decode prog_3_method_1_code 15 = .ok (.iload_n 3, 1) := by decide +kernel
theorem d9_16 : decode prog_3_method_1_code 16 = .ok (.putfield 16, 3) := by decide +kernel
theorem d9_19 : decode prog_3_method_1_code 19 = .ok (.aload_n 0, 1) := by decide +kernel
theorem d9_20 : decode prog_3_method_1_code 20 = .ok (.aload 4, 2) := by decide +kernel
theorem d9_22 : decode prog_3_method_1_code 22 = .ok (.putfield 20, 3) := by decide +kernel
theorem d9_25 : decode prog_3_method_1_code 25 = .ok (.aload_n 0, 1) := by decide +kernel
theorem d9_26 : decode prog_3_method_1_code 26 = .ok (.aload 5, 2) := by decide +kernel
theorem d9_28 : decode prog_3_method_1_code 28 = .ok (.putfield 23, 3) := by decide +kernel
theorem d9_31 : decode prog_3_method_1_code 31 = .ok (.aload_n 0, 1) := by decide +kernel
theorem d9_32 : decode prog_3_method_1_code 32 = .ok (.aload 6, 2) := by decide +kernel
theorem d9_34 : decode prog_3_method_1_code 34 = .ok (.putfield 26, 3) := by decide +kernel
theorem d9_37 : decode prog_3_method_1_code 37 = .ok (.aload_n 0, 1) := by decide +kernel
theorem d9_38 : decode prog_3_method_1_code 38 = .ok (.aload 7, 2) := by decide +kernel
theorem d9_40 : decode prog_3_method_1_code 40 = .ok (.putfield 30, 3) := by decide +kernel
theorem d9_43 : decode prog_3_method_1_code 43 = .ok (.return_, 1) := by decide +kernel
theorem d10_0 : decode prog_3_method_4_code 0 = .ok (.aload_n 0, 1) := by decide +kernel
theorem d10_1 : decode prog_3_method_4_code 1 = .ok (.getfield 7, 3) := by decide +kernel
theorem d10_4 : decode prog_3_method_4_code 4 = .ok (.areturn, 1) := by decide +kernel
theorem d11_0 : decode prog_3_method_5_code 0 = .ok (.aload_n 0, 1) := by decide +kernel
theorem d11_1 : decode prog_3_method_5_code 1 = .ok (.getfield 13, 3) := by decide +kernel
theorem d11_4 : decode prog_3_method_5_code 4 = .ok (.areturn, 1) := by decide +kernel
theorem d12_0 : decode prog_3_method_6_code 0 = .ok (.aload_n 0, 1) := by decide +kernel
theorem d12_1 : decode prog_3_method_6_code 1 = .ok (.getfield 16, 3) := by decide +kernel
theorem d12_4 : decode prog_3_method_6_code 4 = .ok (.ireturn, 1) := by decide +kernel
theorem d13_0 : decode prog_3_method_7_code 0 = .ok (.aload_n 0, 1) := by decide +kernel
theorem d13_1 : decode prog_3_method_7_code 1 = .ok (.getfield 20, 3) := by decide +kernel
theorem d13_4 : decode prog_3_method_7_code 4 = .ok (.areturn, 1) := by decide +kernel
theorem d14_0 : decode prog_3_method_8_code 0 = .ok (.aload_n 0, 1) := by decide +kernel
theorem d14_1 : decode prog_3_method_8_code 1 = .ok (.getfield 23, 3) := by decide +kernel
theorem d14_4 : decode prog_3_method_8_code 4 = .ok (.areturn, 1) := by decide +kernel
theorem d15_0 : decode prog_3_method_10_code 0 = .ok (.aload_n 0, 1) := by decide +kernel
theorem d15_1 : decode prog_3_method_10_code 1 = .ok (.getfield 30, 3) := by decide +kernel
theorem d15_4 : decode prog_3_method_10_code 4 = .ok (.ifnonnull 7, 3) := by decide +kernel
theorem d15_7 : decode prog_3_method_10_code 7 = .ok (.lconst 0, 1) := by decide +kernel
theorem d15_8 : decode prog_3_method_10_code 8 = .ok (.goto 10, 3) := by decide +kernel
theorem d15_18 : decode prog_3_method_10_code 18 = .ok (.lreturn, 1) := by decide +kernel
theorem pd0 : parseMethodDescriptor "()Ljava/util/Map;" = some ⟨[], some (.object "java/util/Map")⟩ := by decide +kernel
theorem pd1 : parseMethodDescriptor "(Ljava/lang/String;Ljava/lang/String;ILjava/lang/String;Ljava/lang/String;Ljava/util/Map;Lcom/example/fieldwise/fieldwise/io/HeldOutput;)V" = some ⟨[(.object "java/lang/String"), (.object "java/lang/String"), .int, (.object "java/lang/String"), (.object "java/lang/String"), (.object "java/util/Map"), (.object "com/example/fieldwise/fieldwise/io/HeldOutput")], none⟩ := by decide +kernel
theorem pd2 : parseMethodDescriptor "(Ljava/lang/String;ILjava/lang/String;)Lcom/example/fieldwise/fieldwise/batch/BatchPart;" = some ⟨[(.object "java/lang/String"), .int, (.object "java/lang/String")], some (.object "com/example/fieldwise/fieldwise/batch/BatchPart")⟩ := by decide +kernel
theorem pd3 : parseMethodDescriptor "()Ljava/lang/String;" = some ⟨[], some (.object "java/lang/String")⟩ := by decide +kernel
theorem pd4 : parseMethodDescriptor "()I" = some ⟨[], some .int⟩ := by decide +kernel
theorem pd5 : parseMethodDescriptor "()J" = some ⟨[], some .long⟩ := by decide +kernel
theorem pn0 : plainName x.cls = true := by first | (simp [x, plainName, overriddenIn]; done) | decide +kernel
theorem pn1 : plainName "java/util/Map" = true := by first | (simp [plainName, overriddenIn]; done) | decide +kernel
theorem pn2 : plainName "com/example/fieldwise/fieldwise/batch/BatchPart" = true := by first | (simp [plainName, overriddenIn]; done) | decide +kernel

def Q8 (Z : State) (em : Addr) (h0 : Heap) (n0 : Nat) (v : Option Value) (h : Heap) (L : List Loc) : Prop := v = some (.ref em) ∧ Fr n0 L ∧ h = h0
set_option maxRecDepth 65536 in
set_option maxHeartbeats 40000000 in
theorem rm8 (l : Launch) (Z : State) (a0 : Array Value) (hw : ∀ d ∈ tables_1, d.before a0 Z = true) (em : Addr) (h0 : Heap) (n0 : Nat) (O0 : Old Z n0 h0) (S_EMPTY_MAP : Sta Z Z.heap "java/util/ImmutableCollections" "EMPTY_MAP" "Ljava/util/ImmutableCollections$MapN;" (.ref em)) :
    Met l Z (⟨"java/util/Map", "of", "()Ljava/util/Map;"⟩ : MethodName) jdk_72_method_26_code 0 (some (.object "java/util/Map")) ({ frames := 0, cells := 0, slots := 0, locals := 0 } : Room) [] #[] h0 (Q8 Z em h0 n0) := by
  refine met_of (L0 := #[]) (plainFor_of_name pn1) (fun m => by first | (simp [entryFrame, mkF, argsToLocals, Value.category]; done) | rfl) ?_
  intro p e s m below meth c T0 hx hby hml hown hnm hret hlk hZ X0 e0
  have N0 := Fr.nil n0
  refine o_getS X0 hx hZ hown (host := "") (Or.inl (wd40 hw)) Via.refl e0 (Sta.ext O0.2 S_EMPTY_MAP) (hb hby d8_0) rfl fun T0_2 X0_2 e0_2 => ?_
  exact o_ret X0_2 hx hlk (t := (.object "java/util/Map")) hret rfl (Or.inr (Or.inr (Or.inr (Or.inr ⟨rfl, rfl, rfl⟩)))) (hb hby d8_3) (by decide) (by decide) e0_2 ⟨rfl, N0, rfl⟩
def Q9 (Z : State) (a1 : Addr) (u1 : Value) (u2 : Value) (p3 : Int32) (u6 : Value) (h0 : Heap) (n0 : Nat) (v : Option Value) (h : Heap) (L : List Loc) : Prop := v = none ∧ Fr n0 L ∧ Keep h0 h [a1] ∧ Exa Z h a1 "com/example/fieldwise/fieldwise/batch/BatchPart" ∧ Fld Z h a1 "com/example/fieldwise/fieldwise/batch/BatchPart" "mContentId" "Ljava/lang/String;" u1 ∧ Fld Z h a1 "com/example/fieldwise/fieldwise/batch/BatchPart" "mProblem" "Ljava/lang/String;" u2 ∧ Fld Z h a1 "com/example/fieldwise/fieldwise/batch/BatchPart" "mProblemStatus" "I" (.int p3) ∧ Fld Z h a1 "com/example/fieldwise/fieldwise/batch/BatchPart" "mMethod" "Ljava/lang/String;" .null ∧ Fld Z h a1 "com/example/fieldwise/fieldwise/batch/BatchPart" "mTarget" "Ljava/lang/String;" .null ∧ Fld Z h a1 "com/example/fieldwise/fieldwise/batch/BatchPart" "mHeaders" "Ljava/util/Map;" u6 ∧ Fld Z h a1 "com/example/fieldwise/fieldwise/batch/BatchPart" "mBody" "Lcom/example/fieldwise/fieldwise/io/HeldOutput;" .null
set_option maxRecDepth 65536 in
set_option maxHeartbeats 40000000 in
theorem rm9 (l : Launch) (Z : State) (a0 : Array Value) (hw : ∀ d ∈ tables_1, d.before a0 Z = true) (a1 : Addr) (u1 : Value) (u2 : Value) (p3 : Int32) (u6 : Value) (h0 : Heap) (n0 : Nat) (O0 : Old Z n0 h0) (E_a1 : Exa Z h0 a1 "com/example/fieldwise/fieldwise/batch/BatchPart") (F_a1_mContentId : Fld Z h0 a1 "com/example/fieldwise/fieldwise/batch/BatchPart" "mContentId" "Ljava/lang/String;" .null) (F_a1_mProblem : Fld Z h0 a1 "com/example/fieldwise/fieldwise/batch/BatchPart" "mProblem" "Ljava/lang/String;" .null) (F_a1_mProblemStatus : Fld Z h0 a1 "com/example/fieldwise/fieldwise/batch/BatchPart" "mProblemStatus" "I" (.int (0 : Int32))) (F_a1_mMethod : Fld Z h0 a1 "com/example/fieldwise/fieldwise/batch/BatchPart" "mMethod" "Ljava/lang/String;" .null) (F_a1_mTarget : Fld Z h0 a1 "com/example/fieldwise/fieldwise/batch/BatchPart" "mTarget" "Ljava/lang/String;" .null) (F_a1_mHeaders : Fld Z h0 a1 "com/example/fieldwise/fieldwise/batch/BatchPart" "mHeaders" "Ljava/util/Map;" .null) (F_a1_mBody : Fld Z h0 a1 "com/example/fieldwise/fieldwise/batch/BatchPart" "mBody" "Lcom/example/fieldwise/fieldwise/io/HeldOutput;" .null) (na1 : n0 ≤ a1) (ru1 : u1.isRef = true) (ru2 : u2.isRef = true) (ru6 : u6.isRef = true) :
    Met l Z (⟨"com/example/fieldwise/fieldwise/batch/BatchPart", "<init>", "(Ljava/lang/String;Ljava/lang/String;ILjava/lang/String;Ljava/lang/String;Ljava/util/Map;Lcom/example/fieldwise/fieldwise/io/HeldOutput;)V"⟩ : MethodName) prog_3_method_1_code 8 none ({ frames := 1, cells := 0, slots := 0, locals := 12 } : Room) [] #[(.ref a1), u1, u2, (.int p3), .null, .null, u6, .null] h0 (Q9 Z a1 u1 u2 p3 u6 h0 n0) := by
  refine met_of (L0 := #[.val (.ref a1), .val u1, .val u2, .val (.int p3), .val .null, .val .null, .val u6, .val .null]) (plainFor_of_name pn2) (fun m => by rcases ref_cases ru1 with rfl | ⟨_, rfl⟩ <;> rcases ref_cases ru2 with rfl | ⟨_, rfl⟩ <;> rcases ref_cases ru6 with rfl | ⟨_, rfl⟩ <;> rfl) ?_
  intro p e s m below meth c T0 hx hby hml hown hnm hret hlk hZ X0 e0
  have N0 := Fr.nil n0
  have KK0 : Keep h0 h0 [a1] := Keep.refl _ _
  refine o_aloadN X0 hx (hb hby d9_0) rfl rfl rfl ?_
  refine o_initO X0 hx hZ hown (wd45 hw) (wd12 hw) (wd13 hw) e0 (by rw [hml]; rfl) (hb hby d9_1) (by decide) (W := 0) rfl (by decide) rfl fun T1 X1 e1 => ?_
  refine o_aloadN X1 hx (hb hby d9_4) rfl rfl rfl ?_
  refine o_aloadN X1 hx (hb hby d9_5) rfl ru1 rfl ?_
  refine o_putF X1 hx hZ hown (host := "") (Or.inl (wd46 hw)) Via.refl e1 F_a1_mContentId E_a1 (Or.inr ⟨(wd47 hw), rfl, hnm⟩) (wd35 hw) (ty := (.object "java/lang/String")) (by decide) (o_nar ru1) (o_fit ru1) (hb hby d9_6) rfl fun T6 h6 X6 e6 W6 => ?_
  have F6 : Fld Z h6 a1 "com/example/fieldwise/fieldwise/batch/BatchPart" "mContentId" "Ljava/lang/String;" u1 := F_a1_mContentId.same W6
  have N6 := Fr.snoc X6 N0 na1
  have KW6_h0 : Keep h0 h6 [a1] := KK0.wr W6 (Or.inl (List.mem_of_getElem? (i := 0) rfl))
  have OW6 : Old Z n0 h6 := O0.wr W6 na1
  refine o_aloadN X6 hx (hb hby d9_9) rfl rfl rfl ?_
  refine o_aloadN X6 hx (hb hby d9_10) rfl ru2 rfl ?_
  have fF11 : Fld Z h6 a1 "com/example/fieldwise/fieldwise/batch/BatchPart" "mProblem" "Ljava/lang/String;" .null := (F_a1_mProblem.other W6 (Or.inr (slot_ne (Z := Z) (a0 := a0) (Or.inr (wd49 hw)) (Or.inr (wd47 hw)) (by decide) (t := (.object "java/lang/String")) (t' := (.object "java/lang/String")) (by decide) (by decide))))
  have fE11 : Exa Z h6 a1 "com/example/fieldwise/fieldwise/batch/BatchPart" := (E_a1.wr W6)
  refine o_putF X6 hx hZ hown (host := "") (Or.inl (wd48 hw)) Via.refl e6 fF11 fE11 (Or.inr ⟨(wd49 hw), rfl, hnm⟩) (wd35 hw) (ty := (.object "java/lang/String")) (by decide) (o_nar ru2) (o_fit ru2) (hb hby d9_11) rfl fun T11 h11 X11 e11 W11 => ?_
  have F11 : Fld Z h11 a1 "com/example/fieldwise/fieldwise/batch/BatchPart" "mProblem" "Ljava/lang/String;" u2 := fF11.same W11
  have N11 := Fr.snoc X11 N6 na1
  have KW11_h0 : Keep h0 h11 [a1] := KW6_h0.wr W11 (Or.inl (List.mem_of_getElem? (i := 0) rfl))
  have OW11 : Old Z n0 h11 := OW6.wr W11 na1
  refine o_aloadN X11 hx (hb hby d9_14) rfl rfl rfl ?_
  refine o_iloadN X11 hx (hb hby d9_15) rfl rfl ?_
  have fF16 : Fld Z h11 a1 "com/example/fieldwise/fieldwise/batch/BatchPart" "mProblemStatus" "I" (.int (0 : Int32)) := ((F_a1_mProblemStatus.other W6 (Or.inr (slot_ne (Z := Z) (a0 := a0) (Or.inr (wd51 hw)) (Or.inr (wd47 hw)) (by decide) (t := .int) (t' := (.object "java/lang/String")) (by decide) (by decide)))).other W11 (Or.inr (slot_ne (Z := Z) (a0 := a0) (Or.inr (wd51 hw)) (Or.inr (wd49 hw)) (by decide) (t := .int) (t' := (.object "java/lang/String")) (by decide) (by decide))))
  have fE16 : Exa Z h11 a1 "com/example/fieldwise/fieldwise/batch/BatchPart" := (fE11.wr W11)
  refine o_putF X11 hx hZ hown (host := "") (Or.inl (wd50 hw)) Via.refl e11 fF16 fE16 (Or.inr ⟨(wd51 hw), rfl, hnm⟩) (wd35 hw) (ty := .int) (by decide) rfl rfl (hb hby d9_16) rfl fun T16 h16 X16 e16 W16 => ?_
  have F16 : Fld Z h16 a1 "com/example/fieldwise/fieldwise/batch/BatchPart" "mProblemStatus" "I" (.int p3) := fF16.same W16
  have N16 := Fr.snoc X16 N11 na1
  have KW16_h0 : Keep h0 h16 [a1] := KW11_h0.wr W16 (Or.inl (List.mem_of_getElem? (i := 0) rfl))
  have OW16 : Old Z n0 h16 := OW11.wr W16 na1
  refine o_aloadN X16 hx (hb hby d9_19) rfl rfl rfl ?_
  refine o_aload X16 hx (hb hby d9_20) rfl rfl rfl ?_
  have fF22 : Fld Z h16 a1 "com/example/fieldwise/fieldwise/batch/BatchPart" "mMethod" "Ljava/lang/String;" .null := (((F_a1_mMethod.other W6 (Or.inr (slot_ne (Z := Z) (a0 := a0) (Or.inr (wd53 hw)) (Or.inr (wd47 hw)) (by decide) (t := (.object "java/lang/String")) (t' := (.object "java/lang/String")) (by decide) (by decide)))).other W11 (Or.inr (slot_ne (Z := Z) (a0 := a0) (Or.inr (wd53 hw)) (Or.inr (wd49 hw)) (by decide) (t := (.object "java/lang/String")) (t' := (.object "java/lang/String")) (by decide) (by decide)))).other W16 (Or.inr (slot_ne (Z := Z) (a0 := a0) (Or.inr (wd53 hw)) (Or.inr (wd51 hw)) (by decide) (t := (.object "java/lang/String")) (t' := .int) (by decide) (by decide))))
  have fE22 : Exa Z h16 a1 "com/example/fieldwise/fieldwise/batch/BatchPart" := (fE16.wr W16)
  refine o_putF X16 hx hZ hown (host := "") (Or.inl (wd52 hw)) Via.refl e16 fF22 fE22 (Or.inr ⟨(wd53 hw), rfl, hnm⟩) (wd35 hw) (ty := (.object "java/lang/String")) (by decide) rfl rfl (hb hby d9_22) rfl fun T22 h22 X22 e22 W22 => ?_
  have F22 : Fld Z h22 a1 "com/example/fieldwise/fieldwise/batch/BatchPart" "mMethod" "Ljava/lang/String;" .null := fF22.same W22
  have N22 := Fr.snoc X22 N16 na1
  have KW22_h0 : Keep h0 h22 [a1] := KW16_h0.wr W22 (Or.inl (List.mem_of_getElem? (i := 0) rfl))
  have OW22 : Old Z n0 h22 := OW16.wr W22 na1
  refine o_aloadN X22 hx (hb hby d9_25) rfl rfl rfl ?_
  refine o_aload X22 hx (hb hby d9_26) rfl rfl rfl ?_
  have fF28 : Fld Z h22 a1 "com/example/fieldwise/fieldwise/batch/BatchPart" "mTarget" "Ljava/lang/String;" .null := ((((F_a1_mTarget.other W6 (Or.inr (slot_ne (Z := Z) (a0 := a0) (Or.inr (wd55 hw)) (Or.inr (wd47 hw)) (by decide) (t := (.object "java/lang/String")) (t' := (.object "java/lang/String")) (by decide) (by decide)))).other W11 (Or.inr (slot_ne (Z := Z) (a0 := a0) (Or.inr (wd55 hw)) (Or.inr (wd49 hw)) (by decide) (t := (.object "java/lang/String")) (t' := (.object "java/lang/String")) (by decide) (by decide)))).other W16 (Or.inr (slot_ne (Z := Z) (a0 := a0) (Or.inr (wd55 hw)) (Or.inr (wd51 hw)) (by decide) (t := (.object "java/lang/String")) (t' := .int) (by decide) (by decide)))).other W22 (Or.inr (slot_ne (Z := Z) (a0 := a0) (Or.inr (wd55 hw)) (Or.inr (wd53 hw)) (by decide) (t := (.object "java/lang/String")) (t' := (.object "java/lang/String")) (by decide) (by decide))))
  have fE28 : Exa Z h22 a1 "com/example/fieldwise/fieldwise/batch/BatchPart" := (fE22.wr W22)
  refine o_putF X22 hx hZ hown (host := "") (Or.inl (wd54 hw)) Via.refl e22 fF28 fE28 (Or.inr ⟨(wd55 hw), rfl, hnm⟩) (wd35 hw) (ty := (.object "java/lang/String")) (by decide) rfl rfl (hb hby d9_28) rfl fun T28 h28 X28 e28 W28 => ?_
  have F28 : Fld Z h28 a1 "com/example/fieldwise/fieldwise/batch/BatchPart" "mTarget" "Ljava/lang/String;" .null := fF28.same W28
  have N28 := Fr.snoc X28 N22 na1
  have KW28_h0 : Keep h0 h28 [a1] := KW22_h0.wr W28 (Or.inl (List.mem_of_getElem? (i := 0) rfl))
  have OW28 : Old Z n0 h28 := OW22.wr W28 na1
  refine o_aloadN X28 hx (hb hby d9_31) rfl rfl rfl ?_
  refine o_aload X28 hx (hb hby d9_32) rfl ru6 rfl ?_
  have fF34 : Fld Z h28 a1 "com/example/fieldwise/fieldwise/batch/BatchPart" "mHeaders" "Ljava/util/Map;" .null := (((((F_a1_mHeaders.other W6 (Or.inr (slot_ne (Z := Z) (a0 := a0) (Or.inr (wd57 hw)) (Or.inr (wd47 hw)) (by decide) (t := (.object "java/util/Map")) (t' := (.object "java/lang/String")) (by decide) (by decide)))).other W11 (Or.inr (slot_ne (Z := Z) (a0 := a0) (Or.inr (wd57 hw)) (Or.inr (wd49 hw)) (by decide) (t := (.object "java/util/Map")) (t' := (.object "java/lang/String")) (by decide) (by decide)))).other W16 (Or.inr (slot_ne (Z := Z) (a0 := a0) (Or.inr (wd57 hw)) (Or.inr (wd51 hw)) (by decide) (t := (.object "java/util/Map")) (t' := .int) (by decide) (by decide)))).other W22 (Or.inr (slot_ne (Z := Z) (a0 := a0) (Or.inr (wd57 hw)) (Or.inr (wd53 hw)) (by decide) (t := (.object "java/util/Map")) (t' := (.object "java/lang/String")) (by decide) (by decide)))).other W28 (Or.inr (slot_ne (Z := Z) (a0 := a0) (Or.inr (wd57 hw)) (Or.inr (wd55 hw)) (by decide) (t := (.object "java/util/Map")) (t' := (.object "java/lang/String")) (by decide) (by decide))))
  have fE34 : Exa Z h28 a1 "com/example/fieldwise/fieldwise/batch/BatchPart" := (fE28.wr W28)
  refine o_putF X28 hx hZ hown (host := "") (Or.inl (wd56 hw)) Via.refl e28 fF34 fE34 (Or.inr ⟨(wd57 hw), rfl, hnm⟩) (wd35 hw) (ty := (.object "java/util/Map")) (by decide) (o_nar ru6) (o_fit ru6) (hb hby d9_34) rfl fun T34 h34 X34 e34 W34 => ?_
  have F34 : Fld Z h34 a1 "com/example/fieldwise/fieldwise/batch/BatchPart" "mHeaders" "Ljava/util/Map;" u6 := fF34.same W34
  have N34 := Fr.snoc X34 N28 na1
  have KW34_h0 : Keep h0 h34 [a1] := KW28_h0.wr W34 (Or.inl (List.mem_of_getElem? (i := 0) rfl))
  have OW34 : Old Z n0 h34 := OW28.wr W34 na1
  refine o_aloadN X34 hx (hb hby d9_37) rfl rfl rfl ?_
  refine o_aload X34 hx (hb hby d9_38) rfl rfl rfl ?_
  have fF40 : Fld Z h34 a1 "com/example/fieldwise/fieldwise/batch/BatchPart" "mBody" "Lcom/example/fieldwise/fieldwise/io/HeldOutput;" .null := ((((((F_a1_mBody.other W6 (Or.inr (slot_ne (Z := Z) (a0 := a0) (Or.inr (wd59 hw)) (Or.inr (wd47 hw)) (by decide) (t := (.object "com/example/fieldwise/fieldwise/io/HeldOutput")) (t' := (.object "java/lang/String")) (by decide) (by decide)))).other W11 (Or.inr (slot_ne (Z := Z) (a0 := a0) (Or.inr (wd59 hw)) (Or.inr (wd49 hw)) (by decide) (t := (.object "com/example/fieldwise/fieldwise/io/HeldOutput")) (t' := (.object "java/lang/String")) (by decide) (by decide)))).other W16 (Or.inr (slot_ne (Z := Z) (a0 := a0) (Or.inr (wd59 hw)) (Or.inr (wd51 hw)) (by decide) (t := (.object "com/example/fieldwise/fieldwise/io/HeldOutput")) (t' := .int) (by decide) (by decide)))).other W22 (Or.inr (slot_ne (Z := Z) (a0 := a0) (Or.inr (wd59 hw)) (Or.inr (wd53 hw)) (by decide) (t := (.object "com/example/fieldwise/fieldwise/io/HeldOutput")) (t' := (.object "java/lang/String")) (by decide) (by decide)))).other W28 (Or.inr (slot_ne (Z := Z) (a0 := a0) (Or.inr (wd59 hw)) (Or.inr (wd55 hw)) (by decide) (t := (.object "com/example/fieldwise/fieldwise/io/HeldOutput")) (t' := (.object "java/lang/String")) (by decide) (by decide)))).other W34 (Or.inr (slot_ne (Z := Z) (a0 := a0) (Or.inr (wd59 hw)) (Or.inr (wd57 hw)) (by decide) (t := (.object "com/example/fieldwise/fieldwise/io/HeldOutput")) (t' := (.object "java/util/Map")) (by decide) (by decide))))
  have fE40 : Exa Z h34 a1 "com/example/fieldwise/fieldwise/batch/BatchPart" := (fE34.wr W34)
  refine o_putF X34 hx hZ hown (host := "") (Or.inl (wd58 hw)) Via.refl e34 fF40 fE40 (Or.inr ⟨(wd59 hw), rfl, hnm⟩) (wd35 hw) (ty := (.object "com/example/fieldwise/fieldwise/io/HeldOutput")) (by decide) rfl rfl (hb hby d9_40) rfl fun T40 h40 X40 e40 W40 => ?_
  have F40 : Fld Z h40 a1 "com/example/fieldwise/fieldwise/batch/BatchPart" "mBody" "Lcom/example/fieldwise/fieldwise/io/HeldOutput;" .null := fF40.same W40
  have N40 := Fr.snoc X40 N34 na1
  have KW40_h0 : Keep h0 h40 [a1] := KW34_h0.wr W40 (Or.inl (List.mem_of_getElem? (i := 0) rfl))
  have OW40 : Old Z n0 h40 := OW34.wr W40 na1
  have fE43 : Exa Z h40 a1 "com/example/fieldwise/fieldwise/batch/BatchPart" := (fE40.wr W40)
  have fF43 : Fld Z h40 a1 "com/example/fieldwise/fieldwise/batch/BatchPart" "mContentId" "Ljava/lang/String;" u1 := ((((((F6.other W11 (Or.inr (slot_ne (Z := Z) (a0 := a0) (Or.inr (wd47 hw)) (Or.inr (wd49 hw)) (by decide) (t := (.object "java/lang/String")) (t' := (.object "java/lang/String")) (by decide) (by decide)))).other W16 (Or.inr (slot_ne (Z := Z) (a0 := a0) (Or.inr (wd47 hw)) (Or.inr (wd51 hw)) (by decide) (t := (.object "java/lang/String")) (t' := .int) (by decide) (by decide)))).other W22 (Or.inr (slot_ne (Z := Z) (a0 := a0) (Or.inr (wd47 hw)) (Or.inr (wd53 hw)) (by decide) (t := (.object "java/lang/String")) (t' := (.object "java/lang/String")) (by decide) (by decide)))).other W28 (Or.inr (slot_ne (Z := Z) (a0 := a0) (Or.inr (wd47 hw)) (Or.inr (wd55 hw)) (by decide) (t := (.object "java/lang/String")) (t' := (.object "java/lang/String")) (by decide) (by decide)))).other W34 (Or.inr (slot_ne (Z := Z) (a0 := a0) (Or.inr (wd47 hw)) (Or.inr (wd57 hw)) (by decide) (t := (.object "java/lang/String")) (t' := (.object "java/util/Map")) (by decide) (by decide)))).other W40 (Or.inr (slot_ne (Z := Z) (a0 := a0) (Or.inr (wd47 hw)) (Or.inr (wd59 hw)) (by decide) (t := (.object "java/lang/String")) (t' := (.object "com/example/fieldwise/fieldwise/io/HeldOutput")) (by decide) (by decide))))
  have fF43_2 : Fld Z h40 a1 "com/example/fieldwise/fieldwise/batch/BatchPart" "mProblem" "Ljava/lang/String;" u2 := (((((F11.other W16 (Or.inr (slot_ne (Z := Z) (a0 := a0) (Or.inr (wd49 hw)) (Or.inr (wd51 hw)) (by decide) (t := (.object "java/lang/String")) (t' := .int) (by decide) (by decide)))).other W22 (Or.inr (slot_ne (Z := Z) (a0 := a0) (Or.inr (wd49 hw)) (Or.inr (wd53 hw)) (by decide) (t := (.object "java/lang/String")) (t' := (.object "java/lang/String")) (by decide) (by decide)))).other W28 (Or.inr (slot_ne (Z := Z) (a0 := a0) (Or.inr (wd49 hw)) (Or.inr (wd55 hw)) (by decide) (t := (.object "java/lang/String")) (t' := (.object "java/lang/String")) (by decide) (by decide)))).other W34 (Or.inr (slot_ne (Z := Z) (a0 := a0) (Or.inr (wd49 hw)) (Or.inr (wd57 hw)) (by decide) (t := (.object "java/lang/String")) (t' := (.object "java/util/Map")) (by decide) (by decide)))).other W40 (Or.inr (slot_ne (Z := Z) (a0 := a0) (Or.inr (wd49 hw)) (Or.inr (wd59 hw)) (by decide) (t := (.object "java/lang/String")) (t' := (.object "com/example/fieldwise/fieldwise/io/HeldOutput")) (by decide) (by decide))))
  have fF43_3 : Fld Z h40 a1 "com/example/fieldwise/fieldwise/batch/BatchPart" "mProblemStatus" "I" (.int p3) := ((((F16.other W22 (Or.inr (slot_ne (Z := Z) (a0 := a0) (Or.inr (wd51 hw)) (Or.inr (wd53 hw)) (by decide) (t := .int) (t' := (.object "java/lang/String")) (by decide) (by decide)))).other W28 (Or.inr (slot_ne (Z := Z) (a0 := a0) (Or.inr (wd51 hw)) (Or.inr (wd55 hw)) (by decide) (t := .int) (t' := (.object "java/lang/String")) (by decide) (by decide)))).other W34 (Or.inr (slot_ne (Z := Z) (a0 := a0) (Or.inr (wd51 hw)) (Or.inr (wd57 hw)) (by decide) (t := .int) (t' := (.object "java/util/Map")) (by decide) (by decide)))).other W40 (Or.inr (slot_ne (Z := Z) (a0 := a0) (Or.inr (wd51 hw)) (Or.inr (wd59 hw)) (by decide) (t := .int) (t' := (.object "com/example/fieldwise/fieldwise/io/HeldOutput")) (by decide) (by decide))))
  have fF43_4 : Fld Z h40 a1 "com/example/fieldwise/fieldwise/batch/BatchPart" "mMethod" "Ljava/lang/String;" .null := (((F22.other W28 (Or.inr (slot_ne (Z := Z) (a0 := a0) (Or.inr (wd53 hw)) (Or.inr (wd55 hw)) (by decide) (t := (.object "java/lang/String")) (t' := (.object "java/lang/String")) (by decide) (by decide)))).other W34 (Or.inr (slot_ne (Z := Z) (a0 := a0) (Or.inr (wd53 hw)) (Or.inr (wd57 hw)) (by decide) (t := (.object "java/lang/String")) (t' := (.object "java/util/Map")) (by decide) (by decide)))).other W40 (Or.inr (slot_ne (Z := Z) (a0 := a0) (Or.inr (wd53 hw)) (Or.inr (wd59 hw)) (by decide) (t := (.object "java/lang/String")) (t' := (.object "com/example/fieldwise/fieldwise/io/HeldOutput")) (by decide) (by decide))))
  have fF43_5 : Fld Z h40 a1 "com/example/fieldwise/fieldwise/batch/BatchPart" "mTarget" "Ljava/lang/String;" .null := ((F28.other W34 (Or.inr (slot_ne (Z := Z) (a0 := a0) (Or.inr (wd55 hw)) (Or.inr (wd57 hw)) (by decide) (t := (.object "java/lang/String")) (t' := (.object "java/util/Map")) (by decide) (by decide)))).other W40 (Or.inr (slot_ne (Z := Z) (a0 := a0) (Or.inr (wd55 hw)) (Or.inr (wd59 hw)) (by decide) (t := (.object "java/lang/String")) (t' := (.object "com/example/fieldwise/fieldwise/io/HeldOutput")) (by decide) (by decide))))
  have fF43_6 : Fld Z h40 a1 "com/example/fieldwise/fieldwise/batch/BatchPart" "mHeaders" "Ljava/util/Map;" u6 := (F34.other W40 (Or.inr (slot_ne (Z := Z) (a0 := a0) (Or.inr (wd57 hw)) (Or.inr (wd59 hw)) (by decide) (t := (.object "java/util/Map")) (t' := (.object "com/example/fieldwise/fieldwise/io/HeldOutput")) (by decide) (by decide))))
  exact o_retV X40 hx hlk hret (hb hby d9_43) (by decide) (by decide) e40 ⟨rfl, N40, KW40_h0, fE43, fF43, fF43_2, fF43_3, fF43_4, fF43_5, fF43_6, F40⟩
def Q7 (Z : State) (u1 : Value) (p3 : Int32) (u2 : Value) (em : Addr) (h0 : Heap) (n0 : Nat) (v : Option Value) (h : Heap) (L : List Loc) : Prop := ∃ b : Addr, v = some (.ref b) ∧ Fr n0 L ∧ Keep h0 h [] ∧ (h0.size ≤ b) ∧ Exa Z h b "com/example/fieldwise/fieldwise/batch/BatchPart" ∧ Fld Z h b "com/example/fieldwise/fieldwise/batch/BatchPart" "mContentId" "Ljava/lang/String;" u1 ∧ Fld Z h b "com/example/fieldwise/fieldwise/batch/BatchPart" "mProblem" "Ljava/lang/String;" u2 ∧ Fld Z h b "com/example/fieldwise/fieldwise/batch/BatchPart" "mProblemStatus" "I" (.int p3) ∧ Fld Z h b "com/example/fieldwise/fieldwise/batch/BatchPart" "mMethod" "Ljava/lang/String;" .null ∧ Fld Z h b "com/example/fieldwise/fieldwise/batch/BatchPart" "mTarget" "Ljava/lang/String;" .null ∧ Fld Z h b "com/example/fieldwise/fieldwise/batch/BatchPart" "mHeaders" "Ljava/util/Map;" (.ref em) ∧ Fld Z h b "com/example/fieldwise/fieldwise/batch/BatchPart" "mBody" "Lcom/example/fieldwise/fieldwise/io/HeldOutput;" .null
set_option maxRecDepth 65536 in
set_option maxHeartbeats 40000000 in
theorem rm7 (l : Launch) (Z : State) (a0 : Array Value) (hw : ∀ d ∈ tables_1, d.before a0 Z = true) (u1 : Value) (p3 : Int32) (u2 : Value) (em : Addr) (h0 : Heap) (n0 : Nat) (O0 : Old Z n0 h0) (S_EMPTY_MAP : Sta Z Z.heap "java/util/ImmutableCollections" "EMPTY_MAP" "Ljava/util/ImmutableCollections$MapN;" (.ref em)) (ru1 : u1.isRef = true) (ru2 : u2.isRef = true) :
    Met l Z (⟨"com/example/fieldwise/fieldwise/batch/BatchPart", "unreadable", "(Ljava/lang/String;ILjava/lang/String;)Lcom/example/fieldwise/fieldwise/batch/BatchPart;"⟩ : MethodName) prog_3_method_3_code 3 (some (.object "com/example/fieldwise/fieldwise/batch/BatchPart")) ({ frames := 2, cells := 1, slots := 7, locals := 32 } : Room) [] #[u1, (.int p3), u2] h0 (Q7 Z u1 p3 u2 em h0 n0) := by
  refine met_of (L0 := #[.val u1, .val (.int p3), .val u2]) (plainFor_of_name pn2) (fun m => by rcases ref_cases ru1 with rfl | ⟨_, rfl⟩ <;> rcases ref_cases ru2 with rfl | ⟨_, rfl⟩ <;> rfl) ?_
  intro p e s m below meth c T0 hx hby hml hown hnm hret hlk hZ X0 e0
  have N0 := Fr.nil n0
  have KK0 : Keep h0 h0 [] := Keep.refl _ _
  refine o_new X0 hx hZ hown (wd34 hw) (wd35 hw) (wd32 hw) e0 (hb hby d7_0) (by decide) (by decide) (cells' := 1) (slots' := 7) rfl rfl rfl fun T0_2 h0_2 b0 g0 X0_2 e0_2 E0 A0 D0 => ?_
  have s_b0_h0 : h0.size ≤ b0 := Nat.le_trans KK0.1 (Nat.le_of_eq g0.symm)
  have n_b0 : n0 ≤ b0 := Nat.le_trans (O0.1 ▸ O0.2.1) (Nat.le_of_eq g0.symm)
  have KE0_h0 : Keep h0 h0_2 [] := KK0.ext E0
  have OE0 : Old Z n0 h0_2 := O0.ext E0
  have Fb0_mContentId : Fld Z h0_2 b0 "com/example/fieldwise/fieldwise/batch/BatchPart" "mContentId" "Ljava/lang/String;" .null := D0 (Or.inr (wd47 hw)) (ty := (.object "java/lang/String")) (by decide)
  have Fb0_mProblem : Fld Z h0_2 b0 "com/example/fieldwise/fieldwise/batch/BatchPart" "mProblem" "Ljava/lang/String;" .null := D0 (Or.inr (wd49 hw)) (ty := (.object "java/lang/String")) (by decide)
  have Fb0_mProblemStatus : Fld Z h0_2 b0 "com/example/fieldwise/fieldwise/batch/BatchPart" "mProblemStatus" "I" (.int (0 : Int32)) := D0 (Or.inr (wd51 hw)) (ty := .int) (by decide)
  have Fb0_mMethod : Fld Z h0_2 b0 "com/example/fieldwise/fieldwise/batch/BatchPart" "mMethod" "Ljava/lang/String;" .null := D0 (Or.inr (wd53 hw)) (ty := (.object "java/lang/String")) (by decide)
  have Fb0_mTarget : Fld Z h0_2 b0 "com/example/fieldwise/fieldwise/batch/BatchPart" "mTarget" "Ljava/lang/String;" .null := D0 (Or.inr (wd55 hw)) (ty := (.object "java/lang/String")) (by decide)
  have Fb0_mHeaders : Fld Z h0_2 b0 "com/example/fieldwise/fieldwise/batch/BatchPart" "mHeaders" "Ljava/util/Map;" .null := D0 (Or.inr (wd57 hw)) (ty := (.object "java/util/Map")) (by decide)
  have Fb0_mBody : Fld Z h0_2 b0 "com/example/fieldwise/fieldwise/batch/BatchPart" "mBody" "Lcom/example/fieldwise/fieldwise/io/HeldOutput;" .null := D0 (Or.inr (wd59 hw)) (ty := (.object "com/example/fieldwise/fieldwise/io/HeldOutput")) (by decide)
  refine o_dup X0_2 hx (hb hby d7_3) rfl rfl ?_
  refine o_aloadN X0_2 hx (hb hby d7_4) rfl ru1 rfl ?_
  refine o_aloadN X0_2 hx (hb hby d7_5) rfl ru2 rfl ?_
  refine o_iloadN X0_2 hx (hb hby d7_6) rfl rfl ?_
  refine o_aconstNull X0_2 hx (hb hby d7_7) rfl ?_
  refine o_aconstNull X0_2 hx (hb hby d7_8) rfl ?_
  refine o_static X0_2 hx hZ hown (wd36 hw) (wd37 hw) (by decide) (rm8 l Z a0 hw em h0_2 n0 OE0 S_EMPTY_MAP) (wd39 hw) (wd38 hw) e0_2 (by rw [hml]; rfl) (argsL := []) (rest := [.null, .null, (.int p3), u2, u1, (.ref b0), (.ref b0)]) (W := 7) pd0 rfl rfl rfl (by simp only [List.map_cons, List.map_nil, o_cat ru2, o_cat ru1]; rfl) (hb hby d7_9) (by decide) (by decide) (by decide) (by decide) (cells' := 1) (slots' := 7) rfl rfl rfl fun v9 T9 h9 Lc9 X9 e9 hq9 => ?_
  obtain ⟨rfl, N9q, K9⟩ := hq9
  have N9 := Fr.app N0 N9q
  have e9_2 : T9.heap = h0_2 := e9.trans K9
  show Goes p.tables e below (Ends s (Q7 Z u1 p3 u2 em h0 n0) ({ frames := 2, cells := 1, slots := 7, locals := 32 } : Room).cells ({ frames := 2, cells := 1, slots := 7, locals := 32 } : Room).slots) (T9.setTop (mkF m 12 #[.val u1, .val (.int p3), .val u2] [(.ref em), .null, .null, (.int p3), u2, u1, (.ref b0), (.ref b0)]))
  refine o_aconstNull X9 hx (hb hby d7_12) rfl ?_
  refine o_special X9 hx hZ rfl rfl hown (wd42 hw) (wd43 hw) (by decide) (a := b0) (rm9 l Z a0 hw b0 u1 u2 p3 ((.ref em)) h0_2 n0 OE0 A0 Fb0_mContentId Fb0_mProblem Fb0_mProblemStatus Fb0_mMethod Fb0_mTarget Fb0_mHeaders Fb0_mBody n_b0 (ru1) (ru2) (rfl)) (wd44 hw) (wd32 hw) e9_2 (by rw [hml]; rfl) (argsL := [u1, u2, (.int p3), .null, .null, (.ref em), .null]) (rest := [(.ref b0)]) (W := 1) pd1 rfl rfl rfl rfl (hb hby d7_13) (by decide) (by decide) (by decide) (by decide) (cells' := 1) (slots' := 7) rfl rfl rfl fun v13 T13 h13 Lc13 X13 e13 hq13 => ?_
  obtain ⟨rfl, N13q, K13, qE_13, qF_13, qF_13_2, qF_13_3, qF_13_4, qF_13_5, qF_13_6, qF_13_7⟩ := hq13
  have N13 := Fr.app N9 N13q
  have KK13_h0 : Keep h0 h13 [] := KE0_h0.trans K13 (allS (Or.inr s_b0_h0) all0)
  have OK13 : Old Z n0 h13 := OE0.keep K13 (allS n_b0 all0)
  show Goes p.tables e below (Ends s (Q7 Z u1 p3 u2 em h0 n0) ({ frames := 2, cells := 1, slots := 7, locals := 32 } : Room).cells ({ frames := 2, cells := 1, slots := 7, locals := 32 } : Room).slots) (T13.setTop (mkF m 16 #[.val u1, .val (.int p3), .val u2] [(.ref b0)]))
  exact o_ret X13 hx hlk (t := (.object "com/example/fieldwise/fieldwise/batch/BatchPart")) hret rfl (Or.inr (Or.inr (Or.inr (Or.inr ⟨rfl, rfl, rfl⟩)))) (hb hby d7_16) (by decide) (by decide) e13 ⟨b0, rfl, N13, KK13_h0, s_b0_h0, qE_13, qF_13, qF_13_2, qF_13_3, qF_13_4, qF_13_5, qF_13_6, qF_13_7⟩
def Q10 (Z : State) (a1 : Addr) (u1 : Value) (h0 : Heap) (n0 : Nat) (v : Option Value) (h : Heap) (L : List Loc) : Prop := v = some u1 ∧ Fr n0 L ∧ h = h0
set_option maxRecDepth 65536 in
set_option maxHeartbeats 40000000 in
theorem rm10 (l : Launch) (Z : State) (a0 : Array Value) (hw : ∀ d ∈ tables_1, d.before a0 Z = true) (a1 : Addr) (u1 : Value) (h0 : Heap) (n0 : Nat) (O0 : Old Z n0 h0) (F_a1_mContentId : Fld Z h0 a1 "com/example/fieldwise/fieldwise/batch/BatchPart" "mContentId" "Ljava/lang/String;" u1) (ru1 : u1.isRef = true) :
    Met l Z (⟨"com/example/fieldwise/fieldwise/batch/BatchPart", "contentId", "()Ljava/lang/String;"⟩ : MethodName) prog_3_method_4_code 1 (some (.object "java/lang/String")) ({ frames := 0, cells := 0, slots := 0, locals := 0 } : Room) [] #[(.ref a1)] h0 (Q10 Z a1 u1 h0 n0) := by
  refine met_of (L0 := #[.val (.ref a1)]) (plainFor_of_name pn2) (fun m => by first | (simp [entryFrame, mkF, argsToLocals, Value.category]; done) | rfl) ?_
  intro p e s m below meth c T0 hx hby hml hown hnm hret hlk hZ X0 e0
  have N0 := Fr.nil n0
  refine o_aloadN X0 hx (hb hby d10_0) rfl rfl rfl ?_
  refine o_getF X0 hx hZ hown (host := "") (Or.inl (wd46 hw)) Via.refl e0 F_a1_mContentId (hb hby d10_1) rfl fun T1 X1 e1 => ?_
  exact o_ret X1 hx hlk (t := (.object "java/lang/String")) hret (o_nar ru1) (Or.inr (Or.inr (Or.inr (Or.inr ⟨rfl, rfl, ru1⟩)))) (hb hby d10_4) (by decide) (by decide) e1 ⟨rfl, N0, rfl⟩
def Q11 (Z : State) (a1 : Addr) (u1 : Value) (h0 : Heap) (n0 : Nat) (v : Option Value) (h : Heap) (L : List Loc) : Prop := v = some u1 ∧ Fr n0 L ∧ h = h0
set_option maxRecDepth 65536 in
set_option maxHeartbeats 40000000 in
theorem rm11 (l : Launch) (Z : State) (a0 : Array Value) (hw : ∀ d ∈ tables_1, d.before a0 Z = true) (a1 : Addr) (u1 : Value) (h0 : Heap) (n0 : Nat) (O0 : Old Z n0 h0) (F_a1_mProblem : Fld Z h0 a1 "com/example/fieldwise/fieldwise/batch/BatchPart" "mProblem" "Ljava/lang/String;" u1) (ru1 : u1.isRef = true) :
    Met l Z (⟨"com/example/fieldwise/fieldwise/batch/BatchPart", "problem", "()Ljava/lang/String;"⟩ : MethodName) prog_3_method_5_code 1 (some (.object "java/lang/String")) ({ frames := 0, cells := 0, slots := 0, locals := 0 } : Room) [] #[(.ref a1)] h0 (Q11 Z a1 u1 h0 n0) := by
  refine met_of (L0 := #[.val (.ref a1)]) (plainFor_of_name pn2) (fun m => by first | (simp [entryFrame, mkF, argsToLocals, Value.category]; done) | rfl) ?_
  intro p e s m below meth c T0 hx hby hml hown hnm hret hlk hZ X0 e0
  have N0 := Fr.nil n0
  refine o_aloadN X0 hx (hb hby d11_0) rfl rfl rfl ?_
  refine o_getF X0 hx hZ hown (host := "") (Or.inl (wd48 hw)) Via.refl e0 F_a1_mProblem (hb hby d11_1) rfl fun T1 X1 e1 => ?_
  exact o_ret X1 hx hlk (t := (.object "java/lang/String")) hret (o_nar ru1) (Or.inr (Or.inr (Or.inr (Or.inr ⟨rfl, rfl, ru1⟩)))) (hb hby d11_4) (by decide) (by decide) e1 ⟨rfl, N0, rfl⟩
def Q12 (Z : State) (a1 : Addr) (p1 : Int32) (h0 : Heap) (n0 : Nat) (v : Option Value) (h : Heap) (L : List Loc) : Prop := v = some (.int p1) ∧ Fr n0 L ∧ h = h0
set_option maxRecDepth 65536 in
set_option maxHeartbeats 40000000 in
theorem rm12 (l : Launch) (Z : State) (a0 : Array Value) (hw : ∀ d ∈ tables_1, d.before a0 Z = true) (a1 : Addr) (p1 : Int32) (h0 : Heap) (n0 : Nat) (O0 : Old Z n0 h0) (F_a1_mProblemStatus : Fld Z h0 a1 "com/example/fieldwise/fieldwise/batch/BatchPart" "mProblemStatus" "I" (.int p1)) :
    Met l Z (⟨"com/example/fieldwise/fieldwise/batch/BatchPart", "problemStatus", "()I"⟩ : MethodName) prog_3_method_6_code 1 (some .int) ({ frames := 0, cells := 0, slots := 0, locals := 0 } : Room) [] #[(.ref a1)] h0 (Q12 Z a1 p1 h0 n0) := by
  refine met_of (L0 := #[.val (.ref a1)]) (plainFor_of_name pn2) (fun m => by first | (simp [entryFrame, mkF, argsToLocals, Value.category]; done) | rfl) ?_
  intro p e s m below meth c T0 hx hby hml hown hnm hret hlk hZ X0 e0
  have N0 := Fr.nil n0
  refine o_aloadN X0 hx (hb hby d12_0) rfl rfl rfl ?_
  refine o_getF X0 hx hZ hown (host := "") (Or.inl (wd50 hw)) Via.refl e0 F_a1_mProblemStatus (hb hby d12_1) rfl fun T1 X1 e1 => ?_
  exact o_ret X1 hx hlk (t := .int) hret rfl (Or.inl ⟨rfl, by decide, _, rfl⟩) (hb hby d12_4) (by decide) (by decide) e1 ⟨rfl, N0, rfl⟩
def Q13 (Z : State) (a1 : Addr) (h0 : Heap) (n0 : Nat) (v : Option Value) (h : Heap) (L : List Loc) : Prop := v = some .null ∧ Fr n0 L ∧ h = h0
set_option maxRecDepth 65536 in
set_option maxHeartbeats 40000000 in
theorem rm13 (l : Launch) (Z : State) (a0 : Array Value) (hw : ∀ d ∈ tables_1, d.before a0 Z = true) (a1 : Addr) (h0 : Heap) (n0 : Nat) (O0 : Old Z n0 h0) (F_a1_mMethod : Fld Z h0 a1 "com/example/fieldwise/fieldwise/batch/BatchPart" "mMethod" "Ljava/lang/String;" .null) :
    Met l Z (⟨"com/example/fieldwise/fieldwise/batch/BatchPart", "method", "()Ljava/lang/String;"⟩ : MethodName) prog_3_method_7_code 1 (some (.object "java/lang/String")) ({ frames := 0, cells := 0, slots := 0, locals := 0 } : Room) [] #[(.ref a1)] h0 (Q13 Z a1 h0 n0) := by
  refine met_of (L0 := #[.val (.ref a1)]) (plainFor_of_name pn2) (fun m => by first | (simp [entryFrame, mkF, argsToLocals, Value.category]; done) | rfl) ?_
  intro p e s m below meth c T0 hx hby hml hown hnm hret hlk hZ X0 e0
  have N0 := Fr.nil n0
  refine o_aloadN X0 hx (hb hby d13_0) rfl rfl rfl ?_
  refine o_getF X0 hx hZ hown (host := "") (Or.inl (wd52 hw)) Via.refl e0 F_a1_mMethod (hb hby d13_1) rfl fun T1 X1 e1 => ?_
  exact o_ret X1 hx hlk (t := (.object "java/lang/String")) hret rfl (Or.inr (Or.inr (Or.inr (Or.inr ⟨rfl, rfl, rfl⟩)))) (hb hby d13_4) (by decide) (by decide) e1 ⟨rfl, N0, rfl⟩
def Q14 (Z : State) (a1 : Addr) (h0 : Heap) (n0 : Nat) (v : Option Value) (h : Heap) (L : List Loc) : Prop := v = some .null ∧ Fr n0 L ∧ h = h0
set_option maxRecDepth 65536 in
set_option maxHeartbeats 40000000 in
theorem rm14 (l : Launch) (Z : State) (a0 : Array Value) (hw : ∀ d ∈ tables_1, d.before a0 Z = true) (a1 : Addr) (h0 : Heap) (n0 : Nat) (O0 : Old Z n0 h0) (F_a1_mTarget : Fld Z h0 a1 "com/example/fieldwise/fieldwise/batch/BatchPart" "mTarget" "Ljava/lang/String;" .null) :
    Met l Z (⟨"com/example/fieldwise/fieldwise/batch/BatchPart", "target", "()Ljava/lang/String;"⟩ : MethodName) prog_3_method_8_code 1 (some (.object "java/lang/String")) ({ frames := 0, cells := 0, slots := 0, locals := 0 } : Room) [] #[(.ref a1)] h0 (Q14 Z a1 h0 n0) := by
  refine met_of (L0 := #[.val (.ref a1)]) (plainFor_of_name pn2) (fun m => by first | (simp [entryFrame, mkF, argsToLocals, Value.category]; done) | rfl) ?_
  intro p e s m below meth c T0 hx hby hml hown hnm hret hlk hZ X0 e0
  have N0 := Fr.nil n0
  refine o_aloadN X0 hx (hb hby d14_0) rfl rfl rfl ?_
  refine o_getF X0 hx hZ hown (host := "") (Or.inl (wd54 hw)) Via.refl e0 F_a1_mTarget (hb hby d14_1) rfl fun T1 X1 e1 => ?_
  exact o_ret X1 hx hlk (t := (.object "java/lang/String")) hret rfl (Or.inr (Or.inr (Or.inr (Or.inr ⟨rfl, rfl, rfl⟩)))) (hb hby d14_4) (by decide) (by decide) e1 ⟨rfl, N0, rfl⟩
def Q15 (Z : State) (a1 : Addr) (h0 : Heap) (n0 : Nat) (v : Option Value) (h : Heap) (L : List Loc) : Prop := v = some (.long (0 : Int64)) ∧ Fr n0 L ∧ h = h0
set_option maxRecDepth 65536 in
set_option maxHeartbeats 40000000 in
theorem rm15 (l : Launch) (Z : State) (a0 : Array Value) (hw : ∀ d ∈ tables_1, d.before a0 Z = true) (a1 : Addr) (h0 : Heap) (n0 : Nat) (O0 : Old Z n0 h0) (F_a1_mBody : Fld Z h0 a1 "com/example/fieldwise/fieldwise/batch/BatchPart" "mBody" "Lcom/example/fieldwise/fieldwise/io/HeldOutput;" .null) :
    Met l Z (⟨"com/example/fieldwise/fieldwise/batch/BatchPart", "bodyLength", "()J"⟩ : MethodName) prog_3_method_10_code 1 (some .long) ({ frames := 0, cells := 0, slots := 0, locals := 0 } : Room) [] #[(.ref a1)] h0 (Q15 Z a1 h0 n0) := by
  refine met_of (L0 := #[.val (.ref a1)]) (plainFor_of_name pn2) (fun m => by first | (simp [entryFrame, mkF, argsToLocals, Value.category]; done) | rfl) ?_
  intro p e s m below meth c T0 hx hby hml hown hnm hret hlk hZ X0 e0
  have N0 := Fr.nil n0
  refine o_aloadN X0 hx (hb hby d15_0) rfl rfl rfl ?_
  refine o_getF X0 hx hZ hown (host := "") (Or.inl (wd58 hw)) Via.refl e0 F_a1_mBody (hb hby d15_1) rfl fun T1 X1 e1 => ?_
  refine o_ifnonnullNo X1 hx (hb hby d15_4) rfl ?_
  refine o_lconst X1 hx (hb hby d15_7) (v := (0 : Int64)) rfl rfl ?_
  refine o_goto X1 hx (hb hby d15_8) (by decide) (pc' := 18) (by decide) ?_
  exact o_ret X1 hx hlk (t := .long) hret rfl (Or.inr (Or.inl ⟨rfl, rfl, _, rfl⟩)) (hb hby d15_18) (by decide) (by decide) e1 ⟨rfl, N0, rfl⟩
def Q0 (Z : State) (p0 : Int32) (p1 : Int32) (p2 : Int32) (p3 : Int32) (cs : Int32) (em : Addr) (h0 : Heap) (n0 : Nat) (v : Option Value) (h : Heap) (L : List Loc) : Prop := v = some (.int (1 : Int32)) ∧ Fr n0 L ∧ Keep h0 h []
set_option maxRecDepth 65536 in
set_option maxHeartbeats 40000000 in
theorem rm0 (l : Launch) (Z : State) (a0 : Array Value) (hw : ∀ d ∈ tables_1, d.before a0 Z = true) (ws : List Jvm.Cond) (p0 : Int32) (p1 : Int32) (p2 : Int32) (p3 : Int32) (cs : Int32) (em : Addr) (h0 : Heap) (n0 : Nat) (O0 : Old Z n0 h0) (S_COMPACT_STRINGS : Sta Z Z.heap "java/lang/String" "COMPACT_STRINGS" "Z" (.int cs)) (hcs : ¬ (cs = (0 : Int32))) (S_EMPTY_MAP : Sta Z Z.heap "java/util/ImmutableCollections" "EMPTY_MAP" "Ljava/util/ImmutableCollections$MapN;" (.ref em)) :
    Met l Z x code maxLocals ret room_1 ws #[(.int p0), (.int p1), (.int p2), (.int p3)] h0 (Q0 Z p0 p1 p2 p3 cs em h0 n0) := by
  refine met_of (L0 := #[.val (.int p0), .val (.int p1), .val (.int p2), .val (.int p3), .unset, .unset, .unset, .unset]) (plainFor_of_name pn0) (fun m => by first | (simp [entryFrame, mkF, argsToLocals, Value.category, maxLocals]; done) | rfl) ?_
  intro p e s m below meth c T0 hx hby hml hown hnm hret hlk hZ X0 e0
  have N0 := Fr.nil n0
  have KK0 : Keep h0 h0 [] := Keep.refl _ _
  refine o_aconstNull X0 hx (hb hby at_0) rfl ?_
  refine o_astore X0 hx (hb hby at_1) rfl (L' := #[.val (.int p0), .val (.int p1), .val (.int p2), .val (.int p3), .val .null, .unset, .unset, .unset]) rfl rfl ?_
  refine o_iloadN X0 hx (hb hby at_3) rfl rfl ?_
  refine o_iconst X0 hx (hb hby at_4) (v := (1 : Int32)) rfl rfl ?_
  refine o_iand X0 hx (hb hby at_5) rfl ?_
  suffices J48 : ∀ (T48 : State) (l48 : List Loc) (h48 : Heap) (z48 : Value) (z48_2 : Slot) (X48 : Stand p l e room_1 s m #[(.int p0), (.int p1), (.int p2), (.int p3)] below meth c T48 l48 3 8) (e48 : T48.heap = h48) (N48 : Fr n0 l48) (KJ48 : Keep h0 h48 []) (r_z48 : z48.isRef = true) (o_z48_2 : One z48_2) (hz48 : True), Goes p.tables e below (Ends s (Q0 Z p0 p1 p2 p3 cs em h0 n0) room_1.cells room_1.slots) (T48.setTop (mkF m 48 #[.val (.int p0), .val (.int p1), .val (.int p2), .val (.int p3), .val z48, z48_2, .unset, .unset] [])) by
    by_cases hc6 : (p3 &&& (1 : Int32)) = (0 : Int32)
    ·
      refine o_ifNo X0 hx (hb hby at_6) ((if0 _ _).trans (teq hc6).2) rfl ?_
      refine o_iconst X0 hx (hb hby at_9) (v := (2 : Int32)) rfl rfl ?_
      refine o_newP (aty := .char) X0 hx hZ (wd0 hw) e0 (hb hby at_10) (by decide) (cap := 2) (by decide) (by decide) (by decide) (by decide) (cells' := 1) (slots' := 2) rfl rfl rfl fun T10 h10 k10 b10 g10 X10 e10 E10 A10 => ?_
      have s_b10_h0 : h0.size ≤ b10 := Nat.le_trans KK0.1 (Nat.le_of_eq g10.symm)
      have n_b10 : n0 ≤ b10 := Nat.le_trans (O0.1 ▸ O0.2.1) (Nat.le_of_eq g10.symm)
      have KE10_h0 : Keep h0 h10 [] := KK0.ext E10
      have OE10 : Old Z n0 h10 := O0.ext E10
      have A_b10 : Arv Z h10 b10 k10 .char (2 : Int32) [(.int (0 : Int32)), (.int (0 : Int32))] (.int (0 : Int32)) := (Arv.new A10 (by decide)).pad (pad_rep [] (.int (0 : Int32)) 2)
      refine o_astore X10 hx (hb hby at_12) rfl (L' := #[.val (.int p0), .val (.int p1), .val (.int p2), .val (.int p3), .val .null, .val (.ref b10), .unset, .unset]) rfl rfl ?_
      refine o_aload X10 hx (hb hby at_14) rfl rfl rfl ?_
      refine o_iconst X10 hx (hb hby at_16) (v := (0 : Int32)) rfl rfl ?_
      refine o_iloadN X10 hx (hb hby at_17) rfl rfl ?_
      refine o_sipush X10 hx (hb hby at_18) (v := (255 : Int32)) rfl rfl ?_
      refine o_iand X10 hx (hb hby at_21) rfl ?_
      refine o_i2c X10 hx (hb hby at_22) rfl ?_
      refine o_stC X10 hx hZ e10 A_b10 (i := 0) ⟨by decide, by decide⟩ (by decide) (Nat.le_of_ble_eq_true rfl) (hb hby at_23) rfl fun T23 h23 X23 e23 W23 (A23 : Arv Z h23 b10 k10 .char (2 : Int32) [(.int (nar .char ((p0 &&& (255 : Int32)).toUInt32.toUInt16.toUInt32.toInt32))), (.int (0 : Int32))] (.int (0 : Int32))) => ?_
      have N23 := Fr.snoc X23 N0 n_b10
      have KW23_h0 : Keep h0 h23 [] := KE10_h0.wr W23 (Or.inr s_b10_h0)
      have OW23 : Old Z n0 h23 := OE10.wr W23 n_b10
      refine o_aload X23 hx (hb hby at_24) rfl rfl rfl ?_
      refine o_iconst X23 hx (hb hby at_26) (v := (1 : Int32)) rfl rfl ?_
      refine o_iloadN X23 hx (hb hby at_27) rfl rfl ?_
      refine o_bipush X23 hx (hb hby at_28) (v := (8 : Int32)) rfl rfl ?_
      refine o_iushr X23 hx (hb hby at_30) rfl ?_
      refine o_sipush X23 hx (hb hby at_31) (v := (255 : Int32)) rfl rfl ?_
      refine o_iand X23 hx (hb hby at_34) rfl ?_
      refine o_i2c X23 hx (hb hby at_35) rfl ?_
      refine o_stC X23 hx hZ e23 A23 (i := 1) ⟨by decide, by decide⟩ (by decide) (Nat.le_of_ble_eq_true rfl) (hb hby at_36) rfl fun T36 h36 X36 e36 W36 (A36 : Arv Z h36 b10 k10 .char (2 : Int32) [(.int (nar .char ((p0 &&& (255 : Int32)).toUInt32.toUInt16.toUInt32.toInt32))), (.int (nar .char ((((p0.toUInt32 >>> ((8 : Int32) &&& 31).toUInt32).toInt32) &&& (255 : Int32)).toUInt32.toUInt16.toUInt32.toInt32)))] (.int (0 : Int32))) => ?_
      have N36 := Fr.snoc X36 N23 n_b10
      have KW36_h0 : Keep h0 h36 [] := KW23_h0.wr W36 (Or.inr s_b10_h0)
      have OW36 : Old Z n0 h36 := OW23.wr W36 n_b10
      refine o_new X36 hx hZ hown (wd1 hw) (wd2 hw) (wd3 hw) e36 (hb hby at_37) (by decide) (by decide) (cells' := 2) (slots' := 6) rfl rfl rfl fun T37 h37 b37 g37 X37 e37 E37 A37 D37 => ?_
      have s_b37_h0 : h0.size ≤ b37 := Nat.le_trans KW36_h0.1 (Nat.le_of_eq g37.symm)
      have n_b37 : n0 ≤ b37 := Nat.le_trans (OW36.1 ▸ OW36.2.1) (Nat.le_of_eq g37.symm)
      have KE37_h0 : Keep h0 h37 [] := KW36_h0.ext E37
      have OE37 : Old Z n0 h37 := OW36.ext E37
      have Fb37_coder : Fld Z h37 b37 "java/lang/String" "coder" "B" (.int (0 : Int32)) := D37 (Or.inr (wd27 hw)) (ty := .byte) (by decide)
      have Fb37_value : Fld Z h37 b37 "java/lang/String" "value" "[B" .null := D37 (Or.inr (wd29 hw)) (ty := (.array .byte)) (by decide)
      refine o_dup X37 hx (hb hby at_40) rfl rfl ?_
      refine o_aload X37 hx (hb hby at_41) rfl rfl rfl ?_
      have fA43 : Arv Z h37 b10 k10 .char (2 : Int32) [(.int (nar .char ((p0 &&& (255 : Int32)).toUInt32.toUInt16.toUInt32.toInt32))), (.int (nar .char ((((p0.toUInt32 >>> ((8 : Int32) &&& 31).toUInt32).toInt32) &&& (255 : Int32)).toUInt32.toUInt16.toUInt32.toInt32)))] (.int (0 : Int32)) := (A36.ext E37)
      refine o_newStr X37 hx hZ hown (wd4 hw) (wd5 hw) (wd6 hw) (own_ws hw) (wd2 hw) e37 (by rw [hml]; rfl) (cs := [(nar .char ((p0 &&& (255 : Int32)).toUInt32.toUInt16.toUInt32.toInt32)), (nar .char ((((p0.toUInt32 >>> ((8 : Int32) &&& 31).toUInt32).toInt32) &&& (255 : Int32)).toUInt32.toUInt16.toUInt32.toInt32))]) n_b37 OE37 A37 Fb37_value Fb37_coder fA43 S_COMPACT_STRINGS hcs (n := 2) rfl rfl (by decide) (by decide) (own_allS (own_ch _) (own_allS (own_ch _) own_all0)) (rest := [(.ref b37)]) (W := 1) rfl (hb hby at_43) (by decide) (by decide) (by decide) (by decide) (cells' := 3) (slots' := 8) rfl rfl rfl fun T43 h43 Lc43 t43 kb43 X43 e43 Nq43 Kq43 Eq43 Cq43 gq43 Vq43 (Aq43 : Arv Z h43 t43 kb43 .byte (2 : Int32) [(.int ((nar .char ((p0 &&& (255 : Int32)).toUInt32.toUInt16.toUInt32.toInt32)).toInt8.toInt32)), (.int ((nar .char ((((p0.toUInt32 >>> ((8 : Int32) &&& 31).toUInt32).toInt32) &&& (255 : Int32)).toUInt32.toUInt16.toUInt32.toInt32)).toInt8.toInt32))] (.int (0 : Int32))) => ?_
      have N43 := Fr.app N36 Nq43
      have s_t43_h0 : h0.size ≤ t43 := Nat.le_trans KE37_h0.1 gq43
      have n_t43 : n0 ≤ t43 := Nat.le_trans (OE37.1 ▸ OE37.2.1) gq43
      have KKq43_h0 : Keep h0 h43 [] := KE37_h0.trans Kq43 (allS (Or.inr s_b37_h0) all0)
      have OKq43 : Old Z n0 h43 := OE37.keep Kq43 (allS n_b37 all0)
      refine o_astore X43 hx (hb hby at_46) rfl (L' := #[.val (.int p0), .val (.int p1), .val (.int p2), .val (.int p3), .val (.ref b37), .val (.ref b10), .unset, .unset]) rfl rfl ?_
      exact J48 T43 _ h43 (.ref b37) (.val (.ref b10)) X43 e43 N43 KKq43_h0 rfl (One.val rfl) trivial
    ·
      refine o_ifYes X0 hx (hb hby at_6) ((if0 _ _).trans (feq hc6).2) (by decide) (pc' := 48) (by decide) ?_
      exact J48 T0 _ h0 (.null) (.unset) (X0.more (by decide) (by decide)) e0 N0 KK0 rfl One.u trivial
  intro T48 l48 h48 z48 z48_2 X48 e48 N48 KJ48 r_z48 o_z48_2 hz48
  have KKJ48_h0 : Keep h0 h48 [] := KK0.trans KJ48 all0
  have OKJ48 : Old Z n0 h48 := O0.keep KJ48 all0
  refine o_iconst X48 hx (hb hby at_48) (v := (3 : Int32)) rfl rfl ?_
  refine o_newP (aty := .char) X48 hx hZ (wd0 hw) e48 (hb hby at_49) (by decide) (cap := 3) (by decide) (by decide) (by decide) (by decide) (cells' := 4) (slots' := 11) rfl rfl rfl fun T49 h49 k49 b49 g49 X49 e49 E49 A49 => ?_
  have s_b49_h0 : h0.size ≤ b49 := Nat.le_trans KKJ48_h0.1 (Nat.le_of_eq g49.symm)
  have n_b49 : n0 ≤ b49 := Nat.le_trans (OKJ48.1 ▸ OKJ48.2.1) (Nat.le_of_eq g49.symm)
  have KE49_h0 : Keep h0 h49 [] := KKJ48_h0.ext E49
  have OE49 : Old Z n0 h49 := OKJ48.ext E49
  have A_b49 : Arv Z h49 b49 k49 .char (3 : Int32) [(.int (0 : Int32)), (.int (0 : Int32)), (.int (0 : Int32))] (.int (0 : Int32)) := (Arv.new A49 (by decide)).pad (pad_rep [] (.int (0 : Int32)) 3)
  refine o_astore X49 hx (hb hby at_51) rfl (L' := #[.val (.int p0), .val (.int p1), .val (.int p2), .val (.int p3), .val z48, .val (.ref b49), .unset, .unset]) (XS.store1 (o := z48_2) rfl o_z48_2 rfl) rfl ?_
  refine o_aload X49 hx (hb hby at_53) rfl rfl rfl ?_
  refine o_iconst X49 hx (hb hby at_55) (v := (0 : Int32)) rfl rfl ?_
  refine o_iloadN X49 hx (hb hby at_56) rfl rfl ?_
  refine o_sipush X49 hx (hb hby at_57) (v := (255 : Int32)) rfl rfl ?_
  refine o_iand X49 hx (hb hby at_60) rfl ?_
  refine o_i2c X49 hx (hb hby at_61) rfl ?_
  refine o_stC X49 hx hZ e49 A_b49 (i := 0) ⟨by decide, by decide⟩ (by decide) (Nat.le_of_ble_eq_true rfl) (hb hby at_62) rfl fun T62 h62 X62 e62 W62 (A62 : Arv Z h62 b49 k49 .char (3 : Int32) [(.int (nar .char ((p1 &&& (255 : Int32)).toUInt32.toUInt16.toUInt32.toInt32))), (.int (0 : Int32)), (.int (0 : Int32))] (.int (0 : Int32))) => ?_
  have N62 := Fr.snoc X62 N48 n_b49
  have KW62_h0 : Keep h0 h62 [] := KE49_h0.wr W62 (Or.inr s_b49_h0)
  have OW62 : Old Z n0 h62 := OE49.wr W62 n_b49
  refine o_aload X62 hx (hb hby at_63) rfl rfl rfl ?_
  refine o_iconst X62 hx (hb hby at_65) (v := (1 : Int32)) rfl rfl ?_
  refine o_iloadN X62 hx (hb hby at_66) rfl rfl ?_
  refine o_bipush X62 hx (hb hby at_67) (v := (8 : Int32)) rfl rfl ?_
  refine o_iushr X62 hx (hb hby at_69) rfl ?_
  refine o_sipush X62 hx (hb hby at_70) (v := (255 : Int32)) rfl rfl ?_
  refine o_iand X62 hx (hb hby at_73) rfl ?_
  refine o_i2c X62 hx (hb hby at_74) rfl ?_
  refine o_stC X62 hx hZ e62 A62 (i := 1) ⟨by decide, by decide⟩ (by decide) (Nat.le_of_ble_eq_true rfl) (hb hby at_75) rfl fun T75 h75 X75 e75 W75 (A75 : Arv Z h75 b49 k49 .char (3 : Int32) [(.int (nar .char ((p1 &&& (255 : Int32)).toUInt32.toUInt16.toUInt32.toInt32))), (.int (nar .char ((((p1.toUInt32 >>> ((8 : Int32) &&& 31).toUInt32).toInt32) &&& (255 : Int32)).toUInt32.toUInt16.toUInt32.toInt32))), (.int (0 : Int32))] (.int (0 : Int32))) => ?_
  have N75 := Fr.snoc X75 N62 n_b49
  have KW75_h0 : Keep h0 h75 [] := KW62_h0.wr W75 (Or.inr s_b49_h0)
  have OW75 : Old Z n0 h75 := OW62.wr W75 n_b49
  refine o_aload X75 hx (hb hby at_76) rfl rfl rfl ?_
  refine o_iconst X75 hx (hb hby at_78) (v := (2 : Int32)) rfl rfl ?_
  refine o_iloadN X75 hx (hb hby at_79) rfl rfl ?_
  refine o_bipush X75 hx (hb hby at_80) (v := (16 : Int32)) rfl rfl ?_
  refine o_iushr X75 hx (hb hby at_82) rfl ?_
  refine o_sipush X75 hx (hb hby at_83) (v := (255 : Int32)) rfl rfl ?_
  refine o_iand X75 hx (hb hby at_86) rfl ?_
  refine o_i2c X75 hx (hb hby at_87) rfl ?_
  refine o_stC X75 hx hZ e75 A75 (i := 2) ⟨by decide, by decide⟩ (by decide) (Nat.le_of_ble_eq_true rfl) (hb hby at_88) rfl fun T88 h88 X88 e88 W88 (A88 : Arv Z h88 b49 k49 .char (3 : Int32) [(.int (nar .char ((p1 &&& (255 : Int32)).toUInt32.toUInt16.toUInt32.toInt32))), (.int (nar .char ((((p1.toUInt32 >>> ((8 : Int32) &&& 31).toUInt32).toInt32) &&& (255 : Int32)).toUInt32.toUInt16.toUInt32.toInt32))), (.int (nar .char ((((p1.toUInt32 >>> ((16 : Int32) &&& 31).toUInt32).toInt32) &&& (255 : Int32)).toUInt32.toUInt16.toUInt32.toInt32)))] (.int (0 : Int32))) => ?_
  have N88 := Fr.snoc X88 N75 n_b49
  have KW88_h0 : Keep h0 h88 [] := KW75_h0.wr W88 (Or.inr s_b49_h0)
  have OW88 : Old Z n0 h88 := OW75.wr W88 n_b49
  refine o_new X88 hx hZ hown (wd1 hw) (wd2 hw) (wd3 hw) e88 (hb hby at_89) (by decide) (by decide) (cells' := 5) (slots' := 15) rfl rfl rfl fun T89 h89 b89 g89 X89 e89 E89 A89 D89 => ?_
  have s_b89_h0 : h0.size ≤ b89 := Nat.le_trans KW88_h0.1 (Nat.le_of_eq g89.symm)
  have n_b89 : n0 ≤ b89 := Nat.le_trans (OW88.1 ▸ OW88.2.1) (Nat.le_of_eq g89.symm)
  have KE89_h0 : Keep h0 h89 [] := KW88_h0.ext E89
  have OE89 : Old Z n0 h89 := OW88.ext E89
  have Fb89_coder : Fld Z h89 b89 "java/lang/String" "coder" "B" (.int (0 : Int32)) := D89 (Or.inr (wd27 hw)) (ty := .byte) (by decide)
  have Fb89_value : Fld Z h89 b89 "java/lang/String" "value" "[B" .null := D89 (Or.inr (wd29 hw)) (ty := (.array .byte)) (by decide)
  refine o_dup X89 hx (hb hby at_92) rfl rfl ?_
  refine o_aload X89 hx (hb hby at_93) rfl rfl rfl ?_
  have fA95 : Arv Z h89 b49 k49 .char (3 : Int32) [(.int (nar .char ((p1 &&& (255 : Int32)).toUInt32.toUInt16.toUInt32.toInt32))), (.int (nar .char ((((p1.toUInt32 >>> ((8 : Int32) &&& 31).toUInt32).toInt32) &&& (255 : Int32)).toUInt32.toUInt16.toUInt32.toInt32))), (.int (nar .char ((((p1.toUInt32 >>> ((16 : Int32) &&& 31).toUInt32).toInt32) &&& (255 : Int32)).toUInt32.toUInt16.toUInt32.toInt32)))] (.int (0 : Int32)) := (A88.ext E89)
  refine o_newStr X89 hx hZ hown (wd4 hw) (wd5 hw) (wd6 hw) (own_ws hw) (wd2 hw) e89 (by rw [hml]; rfl) (cs := [(nar .char ((p1 &&& (255 : Int32)).toUInt32.toUInt16.toUInt32.toInt32)), (nar .char ((((p1.toUInt32 >>> ((8 : Int32) &&& 31).toUInt32).toInt32) &&& (255 : Int32)).toUInt32.toUInt16.toUInt32.toInt32)), (nar .char ((((p1.toUInt32 >>> ((16 : Int32) &&& 31).toUInt32).toInt32) &&& (255 : Int32)).toUInt32.toUInt16.toUInt32.toInt32))]) n_b89 OE89 A89 Fb89_value Fb89_coder fA95 S_COMPACT_STRINGS hcs (n := 3) rfl rfl (by decide) (by decide) (own_allS (own_ch _) (own_allS (own_ch _) (own_allS (own_ch _) own_all0))) (rest := [(.ref b89)]) (W := 1) rfl (hb hby at_95) (by decide) (by decide) (by decide) (by decide) (cells' := 6) (slots' := 18) rfl rfl rfl fun T95 h95 Lc95 t95 kb95 X95 e95 Nq95 Kq95 Eq95 Cq95 gq95 Vq95 (Aq95 : Arv Z h95 t95 kb95 .byte (3 : Int32) [(.int ((nar .char ((p1 &&& (255 : Int32)).toUInt32.toUInt16.toUInt32.toInt32)).toInt8.toInt32)), (.int ((nar .char ((((p1.toUInt32 >>> ((8 : Int32) &&& 31).toUInt32).toInt32) &&& (255 : Int32)).toUInt32.toUInt16.toUInt32.toInt32)).toInt8.toInt32)), (.int ((nar .char ((((p1.toUInt32 >>> ((16 : Int32) &&& 31).toUInt32).toInt32) &&& (255 : Int32)).toUInt32.toUInt16.toUInt32.toInt32)).toInt8.toInt32))] (.int (0 : Int32))) => ?_
  have N95 := Fr.app N88 Nq95
  have s_t95_h0 : h0.size ≤ t95 := Nat.le_trans KE89_h0.1 gq95
  have n_t95 : n0 ≤ t95 := Nat.le_trans (OE89.1 ▸ OE89.2.1) gq95
  have KKq95_h0 : Keep h0 h95 [] := KE89_h0.trans Kq95 (allS (Or.inr s_b89_h0) all0)
  have OKq95 : Old Z n0 h95 := OE89.keep Kq95 (allS n_b89 all0)
  refine o_astore X95 hx (hb hby at_98) rfl (L' := #[.val (.int p0), .val (.int p1), .val (.int p2), .val (.int p3), .val z48, .val (.ref b49), .val (.ref b89), .unset]) rfl rfl ?_
  refine o_aload X95 hx (hb hby at_100) rfl r_z48 rfl ?_
  refine o_iloadN X95 hx (hb hby at_102) rfl rfl ?_
  refine o_aload X95 hx (hb hby at_103) rfl rfl rfl ?_
  refine o_static X95 hx hZ hown (wd30 hw) (wd31 hw) (by decide) (rm7 l Z a0 hw z48 p2 ((.ref b89)) em h95 n0 OKq95 S_EMPTY_MAP (r_z48) (rfl)) (wd33 hw) (wd32 hw) e95 (by rw [hml]; rfl) (argsL := [z48, (.int p2), (.ref b89)]) (rest := []) (W := 0) pd2 rfl rfl rfl rfl (hb hby at_105) (by decide) (by decide) (by decide) (by decide) (cells' := 7) (slots' := 25) rfl rfl rfl fun v105 T105 h105 Lc105 X105 e105 hq105 => ?_
  obtain ⟨b_105, rfl, N105q, K105, hb_105, qE_105, qF_105, qF_105_2, qF_105_3, qF_105_4, qF_105_5, qF_105_6, qF_105_7⟩ := hq105
  have N105 := Fr.app N95 N105q
  have s_b_105_h0 : h0.size ≤ b_105 := Nat.le_trans KKq95_h0.1 hb_105
  have n_b_105 : n0 ≤ b_105 := Nat.le_trans (OKq95.1 ▸ OKq95.2.1) hb_105
  have KK105_h0 : Keep h0 h105 [] := KKq95_h0.trans K105 all0
  have OK105 : Old Z n0 h105 := OKq95.keep K105 all0
  show Goes p.tables e below (Ends s (Q0 Z p0 p1 p2 p3 cs em h0 n0) room_1.cells room_1.slots) (T105.setTop (mkF m 108 #[.val (.int p0), .val (.int p1), .val (.int p2), .val (.int p3), .val z48, .val (.ref b49), .val (.ref b89), .unset] [(.ref b_105)]))
  refine o_astore X105 hx (hb hby at_108) rfl (L' := #[.val (.int p0), .val (.int p1), .val (.int p2), .val (.int p3), .val z48, .val (.ref b49), .val (.ref b89), .val (.ref b_105)]) rfl rfl ?_
  refine o_aload X105 hx (hb hby at_110) rfl rfl rfl ?_
  refine o_virtual X105 hx hZ (C := "com/example/fieldwise/fieldwise/batch/BatchPart") hown (wd60 hw) (wd61 hw) (notFace_of_selects (args := #[]) (mvT hZ (wd63 hw))) (wd63 hw) (wd62 hw) (by decide) qE_105 (rm10 l Z a0 hw b_105 z48 h105 n0 OK105 qF_105 (r_z48)) (wd64 hw) (wd32 hw) e105 (by rw [hml]; rfl) (argsL := []) (rest := []) (W := 0) pd3 rfl rfl rfl rfl (hb hby at_112) (by decide) (by decide) (by decide) (by decide) (cells' := 7) (slots' := 25) rfl rfl rfl fun v112 T112 h112 Lc112 X112 e112 hq112 => ?_
  obtain ⟨rfl, N112q, K112⟩ := hq112
  have N112 := Fr.app N105 N112q
  have e112_2 : T112.heap = h105 := e112.trans K112
  show Goes p.tables e below (Ends s (Q0 Z p0 p1 p2 p3 cs em h0 n0) room_1.cells room_1.slots) (T112.setTop (mkF m 115 #[.val (.int p0), .val (.int p1), .val (.int p2), .val (.int p3), .val z48, .val (.ref b49), .val (.ref b89), .val (.ref b_105)] [z48]))
  refine o_aload X112 hx (hb hby at_115) rfl r_z48 rfl ?_
  refine o_acmp X112 hx (hb hby at_117) r_z48 r_z48 (same := true) (decide_eq_true rfl) (by decide) (pc' := 120) (by decide) ?_
  refine o_aload X112 hx (hb hby at_120) rfl rfl rfl ?_
  refine o_virtual X112 hx hZ (C := "com/example/fieldwise/fieldwise/batch/BatchPart") hown (wd65 hw) (wd66 hw) (notFace_of_selects (args := #[]) (mvT hZ (wd68 hw))) (wd68 hw) (wd67 hw) (by decide) qE_105 (rm11 l Z a0 hw b_105 ((.ref b89)) h105 n0 OK105 qF_105_2 (rfl)) (wd69 hw) (wd32 hw) e112_2 (by rw [hml]; rfl) (argsL := []) (rest := []) (W := 0) pd3 rfl rfl rfl rfl (hb hby at_122) (by decide) (by decide) (by decide) (by decide) (cells' := 7) (slots' := 25) rfl rfl rfl fun v122 T122 h122 Lc122 X122 e122 hq122 => ?_
  obtain ⟨rfl, N122q, K122⟩ := hq122
  have N122 := Fr.app N112 N122q
  have e122_2 : T122.heap = h105 := e122.trans K122
  show Goes p.tables e below (Ends s (Q0 Z p0 p1 p2 p3 cs em h0 n0) room_1.cells room_1.slots) (T122.setTop (mkF m 125 #[.val (.int p0), .val (.int p1), .val (.int p2), .val (.int p3), .val z48, .val (.ref b49), .val (.ref b89), .val (.ref b_105)] [(.ref b89)]))
  refine o_aload X122 hx (hb hby at_125) rfl rfl rfl ?_
  refine o_acmp X122 hx (hb hby at_127) rfl rfl (same := true) (decide_eq_true rfl) (by decide) (pc' := 130) (by decide) ?_
  refine o_aload X122 hx (hb hby at_130) rfl rfl rfl ?_
  refine o_virtual X122 hx hZ (C := "com/example/fieldwise/fieldwise/batch/BatchPart") hown (wd70 hw) (wd71 hw) (notFace_of_selects (args := #[]) (mvT hZ (wd73 hw))) (wd73 hw) (wd72 hw) (by decide) qE_105 (rm12 l Z a0 hw b_105 p2 h105 n0 OK105 qF_105_3) (wd74 hw) (wd32 hw) e122_2 (by rw [hml]; rfl) (argsL := []) (rest := []) (W := 0) pd4 rfl rfl rfl rfl (hb hby at_132) (by decide) (by decide) (by decide) (by decide) (cells' := 7) (slots' := 25) rfl rfl rfl fun v132 T132 h132 Lc132 X132 e132 hq132 => ?_
  obtain ⟨rfl, N132q, K132⟩ := hq132
  have N132 := Fr.app N122 N132q
  have e132_2 : T132.heap = h105 := e132.trans K132
  show Goes p.tables e below (Ends s (Q0 Z p0 p1 p2 p3 cs em h0 n0) room_1.cells room_1.slots) (T132.setTop (mkF m 135 #[.val (.int p0), .val (.int p1), .val (.int p2), .val (.int p3), .val z48, .val (.ref b49), .val (.ref b89), .val (.ref b_105)] [(.int p2)]))
  refine o_iloadN X132 hx (hb hby at_135) rfl rfl ?_
  refine o_icmpNo X132 hx (hb hby at_136) (teq rfl).2 rfl ?_
  refine o_aload X132 hx (hb hby at_139) rfl rfl rfl ?_
  refine o_virtual X132 hx hZ (C := "com/example/fieldwise/fieldwise/batch/BatchPart") hown (wd75 hw) (wd76 hw) (notFace_of_selects (args := #[]) (mvT hZ (wd78 hw))) (wd78 hw) (wd77 hw) (by decide) qE_105 (rm13 l Z a0 hw b_105 h105 n0 OK105 qF_105_4) (wd79 hw) (wd32 hw) e132_2 (by rw [hml]; rfl) (argsL := []) (rest := []) (W := 0) pd3 rfl rfl rfl rfl (hb hby at_141) (by decide) (by decide) (by decide) (by decide) (cells' := 7) (slots' := 25) rfl rfl rfl fun v141 T141 h141 Lc141 X141 e141 hq141 => ?_
  obtain ⟨rfl, N141q, K141⟩ := hq141
  have N141 := Fr.app N132 N141q
  have e141_2 : T141.heap = h105 := e141.trans K141
  show Goes p.tables e below (Ends s (Q0 Z p0 p1 p2 p3 cs em h0 n0) room_1.cells room_1.slots) (T141.setTop (mkF m 144 #[.val (.int p0), .val (.int p1), .val (.int p2), .val (.int p3), .val z48, .val (.ref b49), .val (.ref b89), .val (.ref b_105)] [.null]))
  refine o_ifnonnullNo X141 hx (hb hby at_144) rfl ?_
  refine o_aload X141 hx (hb hby at_147) rfl rfl rfl ?_
  refine o_virtual X141 hx hZ (C := "com/example/fieldwise/fieldwise/batch/BatchPart") hown (wd80 hw) (wd81 hw) (notFace_of_selects (args := #[]) (mvT hZ (wd83 hw))) (wd83 hw) (wd82 hw) (by decide) qE_105 (rm14 l Z a0 hw b_105 h105 n0 OK105 qF_105_5) (wd84 hw) (wd32 hw) e141_2 (by rw [hml]; rfl) (argsL := []) (rest := []) (W := 0) pd3 rfl rfl rfl rfl (hb hby at_149) (by decide) (by decide) (by decide) (by decide) (cells' := 7) (slots' := 25) rfl rfl rfl fun v149 T149 h149 Lc149 X149 e149 hq149 => ?_
  obtain ⟨rfl, N149q, K149⟩ := hq149
  have N149 := Fr.app N141 N149q
  have e149_2 : T149.heap = h105 := e149.trans K149
  show Goes p.tables e below (Ends s (Q0 Z p0 p1 p2 p3 cs em h0 n0) room_1.cells room_1.slots) (T149.setTop (mkF m 152 #[.val (.int p0), .val (.int p1), .val (.int p2), .val (.int p3), .val z48, .val (.ref b49), .val (.ref b89), .val (.ref b_105)] [.null]))
  refine o_ifnonnullNo X149 hx (hb hby at_152) rfl ?_
  refine o_aload X149 hx (hb hby at_155) rfl rfl rfl ?_
  refine o_virtual X149 hx hZ (C := "com/example/fieldwise/fieldwise/batch/BatchPart") hown (wd85 hw) (wd86 hw) (notFace_of_selects (args := #[]) (mvT hZ (wd88 hw))) (wd88 hw) (wd87 hw) (by decide) qE_105 (rm15 l Z a0 hw b_105 h105 n0 OK105 qF_105_7) (wd89 hw) (wd32 hw) e149_2 (by rw [hml]; rfl) (argsL := []) (rest := []) (W := 0) pd5 rfl rfl rfl rfl (hb hby at_157) (by decide) (by decide) (by decide) (by decide) (cells' := 7) (slots' := 25) rfl rfl rfl fun v157 T157 h157 Lc157 X157 e157 hq157 => ?_
  obtain ⟨rfl, N157q, K157⟩ := hq157
  have N157 := Fr.app N149 N157q
  have e157_2 : T157.heap = h105 := e157.trans K157
  show Goes p.tables e below (Ends s (Q0 Z p0 p1 p2 p3 cs em h0 n0) room_1.cells room_1.slots) (T157.setTop (mkF m 160 #[.val (.int p0), .val (.int p1), .val (.int p2), .val (.int p3), .val z48, .val (.ref b49), .val (.ref b89), .val (.ref b_105)] [(.long (0 : Int64))]))
  refine o_lconst X157 hx (hb hby at_160) (v := (0 : Int64)) rfl rfl ?_
  refine o_lcmp X157 hx (hb hby at_161) rfl ?_
  refine o_ifNo X157 hx (hb hby at_162) ((if0 _ _).trans (teq ((lw_eq _ _).mpr rfl)).2) rfl ?_
  refine o_iconst X157 hx (hb hby at_165) (v := (1 : Int32)) rfl rfl ?_
  refine o_goto X157 hx (hb hby at_166) (by decide) (pc' := 170) (by decide) ?_
  exact o_ret X157 hx hlk (t := .boolean) hret rfl (Or.inl ⟨rfl, by decide, _, rfl⟩) (hb hby at_170) (by decide) (by decide) e157_2 ⟨rfl, N157, KK105_h0⟩
set_option maxRecDepth 65536 in
set_option maxHeartbeats 40000000 in
theorem comes_1 {Post : Tables → Env → Array Value → State → Outcome → State → Prop} (hpost : ∀ tb e args s v u, (limb_1_1.after args s (.returned v) u = true ∧ limb_1_2.after args s (.returned v) u = true ∧ True) → FrameEnd s (.returned v) u (Jvm.fieldLocs frame_1_writes args s ++ Jvm.arrayLocs frame_1_arrays args s ++ Jvm.staticLocs frame_1_statics s) 24 128 → Post tb e args s (.returned v) u) :
    ArmFor flags0 classFile x code maxLocals ret World_1 tables_1 room_1 Calls_1 rest_1 Pre_1 Post := by
  intro l hfl _ _ p e ha hc hk s m args below hf hA hF happ hP
  obtain ⟨hcalls, hrest, hpre⟩ := hP
  obtain ⟨-, -, -, hnamed, -, -, -, hat⟩ := (Spec.applies_iff hf).mp happ
  obtain ⟨hg, hn⟩ := and_e (Cond.before_iff.mp (show (Jvm.Cond.and given_1 narrow_1).before args s = true from hpre))
  obtain ⟨u1a, u1b⟩ := and_e hg
  obtain ⟨u2a, u2b⟩ := and_e u1b
  obtain ⟨u3a, u3b⟩ := and_e u2b
  obtain ⟨u4a, u4b⟩ := and_e u3b
  obtain ⟨w0, w1, w2, w3, rfl⟩ : ∃ w0 w1 w2 w3 : Value, args = #[w0, w1, w2, w3] := by
    have hs : args.size = 4 := by simpa [Cond.value, given_1] using u1a
    obtain ⟨L⟩ := args
    match L, hs with
    | [w0, w1, w2, w3], _ => exact ⟨w0, w1, w2, w3, rfl⟩
  have hw := fun d (hd : d ∈ tables_1) => atoms_spec (ws := Jvm.Cond.code x code maxLocals ret :: tables_1) hat d (List.mem_cons_of_mem _ hd)
  have hfit : Fit s := fun {y c} hc i hi => by
    obtain ⟨ha, rfl⟩ := Array.getElem?_eq_some_iff.mp hc
    have q := List.all_eq_true.mp ((Array.all_eq_true_iff_forall_mem.mp hF) _ (Array.getElem_mem ha)) i (List.mem_range.mpr hi)
    simpa [Array.getElem?_eq_getElem hi] using q
  obtain ⟨hsets, hown0⟩ := atoms_of _ (rest_1_c_eq ▸ (show rest_1_c.before _ s = true from hrest))
  obtain ⟨i0, ei0⟩ := is_v u2a
  obtain rfl : w0 = (.int i0) := Option.some.inj ei0
  obtain ⟨i1, ei1⟩ := is_v u3a
  obtain rfl : w1 = (.int i1) := Option.some.inj ei1
  obtain ⟨i2, ei2⟩ := is_v u4a
  obtain rfl : w2 = (.int i2) := Option.some.inj ei2
  obtain ⟨i3, ei3⟩ := is_v u4b
  obtain rfl : w3 = (.int i3) := Option.some.inj ei3
  obtain ⟨cs0, ecs⟩ := is_v (Cond.before_iff.mp (hsets _ (List.mem_of_getElem? (i := 1) rfl)))
  have Scs : Sta s s.heap "java/lang/String" "COMPACT_STRINGS" "Z" (.int cs0) := Sta.start ecs (Or.inl (hsets _ (List.mem_of_getElem? (i := 0) rfl)))
  have hcs0 : ¬ (cs0 = (0 : Int32)) := gotF (Cond.eq_ints ecs (Term.int_eval (0))) (not_v (Cond.before_iff.mp (hsets _ (List.mem_of_getElem? (i := 2) rfl))))
  obtain ⟨em0, eem⟩ := exa_v (Cond.before_iff.mp (hsets _ (List.mem_of_getElem? (i := 11) rfl)))
  have Sem : Sta s s.heap "java/util/ImmutableCollections" "EMPTY_MAP" "Ljava/util/ImmutableCollections$MapN;" (.ref em0) := Sta.start eem (Or.inl (hsets _ (List.mem_of_getElem? (i := 10) rfl)))
  obtain ⟨n, o, h1, h2, h3, _, L, rfl, ⟨rfl, N, -⟩, hq⟩ := rm0 l s _ hw tables_1 i0 i1 i2 i3 cs0 em0 s.heap s.heap.size (Old.start s) Scs hcs0 Sem p e ha hc hk s m _ below hf ((Spec.applies_iff_loose hf).mp happ).1 ⟨rfl, State.Warmed39.refl s, rfl⟩ trivial
  refine ⟨n, _, h1, h2, h3, hpost _ _ _ _ _ _ ⟨Cond.after_iff.mpr rfl, Cond.after_iff.mpr (eq_i res_at (Term.int_eval (1)) rfl), trivial⟩ ⟨hq.1, hq.2.1, (hq.2.2.sift fun y hy => Or.inr (N y hy)).mono (by decide) (by decide)⟩⟩
theorem main_1_1 : Claimed_1_1 := comes_1 fun _ _ _ _ _ _ h hF => ⟨h.1, hF⟩
theorem main_1_2 : Claimed_1_2 := comes_1 fun _ _ _ _ _ _ h hF => ⟨h.2.1, hF⟩
end Jvm.Pilot.@@N@@
namespace Jvm.Pilot.@@N@@
open Jvm Jvm.ClassFile Sem Op Lib Jvm.Free Jvm.Stand Jvm.Pilot.@@N@@.Jvm.D
/-! MADE BY PROGRAM (witnessworld.py) out of the Statement's table words and the real class files: 28 classes; the members and pool entries that the words name. The judged class is class 1, her method 1. -/
namespace start1
open Jvm.ClassFile
def u (s : String) : CpInfo := .utf8 (stringToUtf16 s)
/-- a pool by its gaps: so many unusable entries, then the entry; so many at the end -/
def gap : Nat → List CpInfo → List CpInfo
  | 0, r => r
  | n + 1, r => .unusable :: gap n r
def poolList (es : List (Nat × CpInfo)) (last : Nat) : List CpInfo := es.foldr (fun e r => gap e.1 (e.2 :: r)) (gap last [])
def pool (es : List (Nat × CpInfo)) (last : Nat) : Array CpInfo := ⟨poolList es last⟩
def fileOf (pool : Array CpInfo) (this : Nat) (attrs : Array Attribute := #[]) (ms : Array MethodInfo := #[]) (fl : Nat := 33) (sup : Nat := 0) (ifs : Array Nat := #[]) (fds : Array FieldInfo := #[]) : ClassFile where
  minorVersion := 0
  majorVersion := 65
  constantPool := pool
  accessFlags := fl
  thisClass := this
  superClass := sup
  interfaces := ifs
  fields := fds
  methods := ms
  attributes := attrs
def plain (name : String) (sup : Option ClassId) : Class where
  name := name
  kind := .ordinary
  loader := none
  accessFlags := 33
  super := sup
  interfaces := #[]
  cf := none
  fields := #[]
  methods := #[]
  instanceTypes := #[]
  staticTypes := #[]
  resolved := #[]
  callSites := []
  init := .initialized
  statics := none
  mirror := none

def pool0 : Array CpInfo := pool [(5, u "<init>"), (0, u "()V"), (1, .class_ 10), (1, u "java/lang/Object")] 113

def k0c0 : Code := { maxStack := 0, maxLocals := 1, code := object_method_1_code, exceptionTable := #[], attributes := #[] }
def k0m0 : Method := { name := "<init>", desc := "()V", sig := { parameters := [], returnType := none }, accessFlags := 1, code := some k0c0 }
/-- java/lang/Object -/
def k0 : Class := { plain "java/lang/Object" none with
  accessFlags := 33
  interfaces := #[]
  cf := some (fileOf pool0 8 #[] #[{ accessFlags := 1, nameIndex := 5, descriptorIndex := 6, attributes := #[] }] 33 0 #[] #[])
  fields := #[]
  methods := #[k0m0]
  instanceTypes := #[]
  staticTypes := #[]
  resolved := Array.replicate 124 none
  statics := none }

def pool1 : Array CpInfo := pool [(2, .class_ 4), (1, u "java/lang/Object"), (0, u "<init>"), (0, u "()V"), (0, .class_ 8), (0, u "java/lang/String"), (0, .methodref 7 10), (0, .nameAndType 5 11), (0, u "([C)V"), (0, .methodref 13 14), (0, .class_ 15), (0, .nameAndType 16 17), (0, u "com/example/fieldwise/fieldwise/batch/BatchPart"), (0, u "unreadable"), (0, u "(Ljava/lang/String;ILjava/lang/String;)Lcom/example/fieldwise/fieldwise/batch/BatchPart;"), (0, .methodref 13 19), (0, .nameAndType 20 21), (0, u "contentId"), (0, u "()Ljava/lang/String;"), (0, .methodref 13 23), (0, .nameAndType 24 21), (0, u "problem"), (0, .methodref 13 26), (0, .nameAndType 27 28), (0, u "problemStatus"), (0, u "()I"), (0, .methodref 13 30), (0, .nameAndType 31 21), (0, u "method"), (0, .methodref 13 33), (0, .nameAndType 34 21), (0, u "target"), (0, .methodref 13 36), (0, .nameAndType 37 38), (0, u "bodyLength"), (0, u "()J"), (0, .class_ 40), (0, u "com/example/fieldwise/fieldwise/batch/BatchPartUnreadablePinLaw"), (2, u "law"), (0, u "(IIII)Z")] 5

def k1m0 : Method := { name := "<init>", desc := "()V", sig := { parameters := [], returnType := none }, accessFlags := 1, code := none }
def k1c1 : Code := { maxStack := 4, maxLocals := 8, code := code, exceptionTable := #[], attributes := #[] }
def k1m1 : Method := { name := "law", desc := "(IIII)Z", sig := { parameters := [.int, .int, .int, .int], returnType := some .boolean }, accessFlags := 9, code := some k1c1 }
/-- com/example/fieldwise/fieldwise/batch/BatchPartUnreadablePinLaw -/
def k1 : Class := { plain "com/example/fieldwise/fieldwise/batch/BatchPartUnreadablePinLaw" (some 0) with
  accessFlags := 49
  interfaces := #[]
  cf := some (fileOf pool1 39 #[] #[{ accessFlags := 1, nameIndex := 5, descriptorIndex := 6, attributes := #[] }, { accessFlags := 9, nameIndex := 43, descriptorIndex := 44, attributes := #[] }] 49 2 #[] #[])
  fields := #[]
  methods := #[k1m0, k1m1]
  instanceTypes := #[]
  staticTypes := #[]
  resolved := Array.replicate 50 none
  statics := none }

def pool2 : Array CpInfo := pool [(1, .class_ 2), (0, u "java/io/Serializable"), (0, .class_ 4), (0, u "java/lang/Object")] 2

/-- java/io/Serializable -/
def k2 : Class := { plain "java/io/Serializable" (some 0) with
  accessFlags := 1537
  interfaces := #[]
  cf := some (fileOf pool2 1 #[] #[] 1537 3 #[] #[])
  fields := #[]
  methods := #[]
  instanceTypes := #[]
  staticTypes := #[]
  resolved := Array.replicate 7 none
  statics := none }

def pool3 : Array CpInfo := pool [(1, .class_ 2), (0, u "java/lang/Comparable"), (0, .class_ 4), (0, u "java/lang/Object")] 7

/-- java/lang/Comparable -/
def k3 : Class := { plain "java/lang/Comparable" (some 0) with
  accessFlags := 1537
  interfaces := #[]
  cf := some (fileOf pool3 1 #[] #[] 1537 3 #[] #[])
  fields := #[]
  methods := #[]
  instanceTypes := #[]
  staticTypes := #[]
  resolved := Array.replicate 12 none
  statics := none }

def pool4 : Array CpInfo := pool [(2, .class_ 4), (1, u "java/lang/CharSequence"), (42, .class_ 48), (0, u "java/lang/CharSequence$1CodePointIterator"), (10, .class_ 60), (0, u "java/lang/CharSequence$1CharIterator"), (5, .class_ 67), (0, u "java/lang/Object")] 63

/-- java/lang/CharSequence -/
def k4 : Class := { plain "java/lang/CharSequence" (some 0) with
  accessFlags := 1537
  interfaces := #[]
  cf := some (fileOf pool4 2 #[.nestMembers #[47, 59]] #[] 1537 66 #[] #[])
  fields := #[]
  methods := #[]
  instanceTypes := #[]
  staticTypes := #[]
  resolved := Array.replicate 131 none
  statics := none }

def pool5 : Array CpInfo := pool [(1, .class_ 2), (0, u "java/lang/constant/Constable"), (0, .class_ 4), (0, u "java/lang/Object")] 6

/-- java/lang/constant/Constable -/
def k5 : Class := { plain "java/lang/constant/Constable" (some 0) with
  accessFlags := 1537
  interfaces := #[]
  cf := some (fileOf pool5 1 #[] #[] 1537 3 #[] #[])
  fields := #[]
  methods := #[]
  instanceTypes := #[]
  staticTypes := #[]
  resolved := Array.replicate 11 none
  statics := none }

def pool6 : Array CpInfo := pool [(1, .class_ 2), (0, u "java/lang/constant/ConstantDesc"), (0, .class_ 4), (0, u "java/lang/Object")] 32

/-- java/lang/constant/ConstantDesc -/
def k6 : Class := { plain "java/lang/constant/ConstantDesc" (some 0) with
  accessFlags := 1537
  interfaces := #[]
  cf := some (fileOf pool6 1 #[] #[] 1537 3 #[] #[])
  fields := #[]
  methods := #[]
  instanceTypes := #[]
  staticTypes := #[]
  resolved := Array.replicate 37 none
  statics := none }

def pool7 : Array CpInfo := pool [(1, .methodref 2 3), (0, .class_ 4), (0, .nameAndType 5 6), (0, u "java/lang/Object"), (0, u "<init>"), (0, u "()V"), (2, .fieldref 10 11), (0, .class_ 12), (0, .nameAndType 13 14), (0, u "java/lang/String"), (0, u "value"), (0, u "[B"), (0, .fieldref 10 16), (0, .nameAndType 17 18), (0, u "coder"), (0, u "B"), (2, u "hash"), (0, u "I"), (2, u "hashIsZero"), (0, u "Z"), (0, .methodref 10 28), (0, .nameAndType 5 29), (0, u "([CIILjava/lang/Void;)V"), (8, .fieldref 10 39), (0, .nameAndType 40 26), (0, u "COMPACT_STRINGS"), (1, .class_ 44), (1, u "java/lang/StringUTF16"), (0, u "compress"), (1, .methodref 42 48), (0, .nameAndType 49 50), (0, u "coderFromArrayLen"), (0, u "([BI)B"), (126, .methodref 42 178), (0, .nameAndType 45 179), (0, u "([CII)[B"), (395, .class_ 576), (0, u "java/lang/CharSequence"), (22, u "CASE_INSENSITIVE_ORDER"), (0, u "Ljava/util/Comparator;"), (409, u "([C)V"), (90, u "serialPersistentFields"), (0, u "[Ljava/io/ObjectStreamField;"), (0, .class_ 1104), (0, u "java/lang/String$CaseInsensitiveComparator"), (1, .class_ 1107), (0, u "java/io/Serializable"), (0, .class_ 1109), (0, u "java/lang/Comparable"), (0, .class_ 1111), (0, u "java/lang/constant/Constable"), (0, .class_ 1113), (0, u "java/lang/constant/ConstantDesc"), (2, u "serialVersionUID"), (0, u "J"), (3, u "REPL"), (0, u "C"), (2, u "LATIN1"), (1, u "UTF16")] 323

def k7m0 : Method := { name := "<init>", desc := "()V", sig := { parameters := [], returnType := none }, accessFlags := 1, code := none }
def k7c1 : Code := { maxStack := 5, maxLocals := 2, code := jdk_42_method_3_code, exceptionTable := #[], attributes := #[] }
def k7m1 : Method := { name := "<init>", desc := "([C)V", sig := { parameters := [(.array .char)], returnType := none }, accessFlags := 1, code := some k7c1 }
def k7c2 : Code := { maxStack := 4, maxLocals := 6, code := jdk_42_method_149_code, exceptionTable := #[], attributes := #[] }
def k7m2 : Method := { name := "<init>", desc := "([CIILjava/lang/Void;)V", sig := { parameters := [(.array .char), .int, .int, (.object "java/lang/Void")], returnType := none }, accessFlags := 2, code := some k7c2 }
/-- java/lang/String -/
def k7 : Class := { plain "java/lang/String" (some 0) with
  accessFlags := 49
  interfaces := #[2, 3, 4, 5, 6]
  cf := some (fileOf pool7 10 #[.nestMembers #[1103]] #[{ accessFlags := 1, nameIndex := 5, descriptorIndex := 6, attributes := #[] }, { accessFlags := 1, nameIndex := 5, descriptorIndex := 1010, attributes := #[] }, { accessFlags := 2, nameIndex := 5, descriptorIndex := 29, attributes := #[] }] 49 2 #[1106, 1108, 575, 1110, 1112] #[{ accessFlags := 18, nameIndex := 13, descriptorIndex := 14, attributes := #[] }, { accessFlags := 18, nameIndex := 17, descriptorIndex := 18, attributes := #[] }, { accessFlags := 2, nameIndex := 21, descriptorIndex := 22, attributes := #[] }, { accessFlags := 2, nameIndex := 25, descriptorIndex := 26, attributes := #[] }, { accessFlags := 26, nameIndex := 1116, descriptorIndex := 1117, attributes := #[] }, { accessFlags := 24, nameIndex := 40, descriptorIndex := 26, attributes := #[] }, { accessFlags := 26, nameIndex := 1101, descriptorIndex := 1102, attributes := #[] }, { accessFlags := 26, nameIndex := 1121, descriptorIndex := 1122, attributes := #[] }, { accessFlags := 25, nameIndex := 599, descriptorIndex := 600, attributes := #[] }, { accessFlags := 24, nameIndex := 1125, descriptorIndex := 18, attributes := #[] }, { accessFlags := 24, nameIndex := 1127, descriptorIndex := 18, attributes := #[] }])
  fields := #[{ name := "value", type := (.array .byte), accessFlags := 18, slot := 0, constantValue := 0 }, { name := "coder", type := .byte, accessFlags := 18, slot := 1, constantValue := 0 }, { name := "hash", type := .int, accessFlags := 2, slot := 2, constantValue := 0 }, { name := "hashIsZero", type := .boolean, accessFlags := 2, slot := 3, constantValue := 0 }, { name := "serialVersionUID", type := .long, accessFlags := 26, slot := 0, constantValue := 0 }, { name := "COMPACT_STRINGS", type := .boolean, accessFlags := 24, slot := 1, constantValue := 0 }, { name := "serialPersistentFields", type := (.array (.object "java/io/ObjectStreamField")), accessFlags := 26, slot := 2, constantValue := 0 }, { name := "REPL", type := .char, accessFlags := 26, slot := 3, constantValue := 0 }, { name := "CASE_INSENSITIVE_ORDER", type := (.object "java/util/Comparator"), accessFlags := 25, slot := 4, constantValue := 0 }, { name := "LATIN1", type := .byte, accessFlags := 24, slot := 5, constantValue := 0 }, { name := "UTF16", type := .byte, accessFlags := 24, slot := 6, constantValue := 0 }]
  methods := #[k7m0, k7m1, k7m2]
  instanceTypes := #[(.array .byte), .byte, .int, .boolean]
  staticTypes := #[.long, .boolean, (.array (.object "java/io/ObjectStreamField")), .char, (.object "java/util/Comparator"), .byte, .byte]
  resolved := Array.replicate 1451 none
  statics := some 0 }

def pool8 : Array CpInfo := pool [(6, .class_ 8), (1, u "java/lang/Object"), (0, u "<init>"), (0, u "()V"), (1, .class_ 14), (1, u "java/lang/StringUTF16"), (31, u "$assertionsDisabled"), (0, u "Z"), (13, u "HI_BYTE_SHIFT"), (0, u "I"), (2, u "LO_BYTE_SHIFT"), (49, .methodref 12 116), (0, .nameAndType 117 118), (0, u "compress"), (0, u "([CI[BII)I"), (3, u "([CII)[B"), (138, u "coderFromArrayLen"), (0, u "([BI)B"), (106, .class_ 371), (1, u "java/lang/StringUTF16$LinesSpliterator"), (58, u "MAX_LENGTH"), (196, .class_ 628), (0, u "java/lang/StringUTF16$CodePointsSpliterator"), (0, .class_ 630), (0, u "java/lang/StringUTF16$CharsSpliterator")] 4

def k8m0 : Method := { name := "<init>", desc := "()V", sig := { parameters := [], returnType := none }, accessFlags := 0, code := none }
def k8c1 : Code := { maxStack := 2, maxLocals := 2, code := jdk_52_method_15_code, exceptionTable := #[], attributes := #[] }
def k8m1 : Method := { name := "coderFromArrayLen", desc := "([BI)B", sig := { parameters := [(.array .byte), .int], returnType := some .byte }, accessFlags := 8, code := some k8c1 }
def k8c2 : Code := { maxStack := 5, maxLocals := 6, code := jdk_52_method_16_code, exceptionTable := #[], attributes := #[] }
def k8m2 : Method := { name := "compress", desc := "([CII)[B", sig := { parameters := [(.array .char), .int, .int], returnType := some (.array .byte) }, accessFlags := 9, code := some k8c2 }
def k8c3 : Code := { maxStack := 3, maxLocals := 7, code := jdk_52_method_21_code, exceptionTable := #[], attributes := #[] }
def k8m3 : Method := { name := "compress", desc := "([CI[BII)I", sig := { parameters := [(.array .char), .int, (.array .byte), .int, .int], returnType := some .int }, accessFlags := 9, code := some k8c3 }
/-- java/lang/StringUTF16 -/
def k8 : Class := { plain "java/lang/StringUTF16" (some 0) with
  accessFlags := 48
  interfaces := #[]
  cf := some (fileOf pool8 12 #[.nestMembers #[627, 629, 369]] #[{ accessFlags := 0, nameIndex := 9, descriptorIndex := 10, attributes := #[] }, { accessFlags := 8, nameIndex := 261, descriptorIndex := 262, attributes := #[] }, { accessFlags := 9, nameIndex := 117, descriptorIndex := 122, attributes := #[] }, { accessFlags := 9, nameIndex := 117, descriptorIndex := 118, attributes := #[] }] 48 6 #[] #[{ accessFlags := 26, nameIndex := 61, descriptorIndex := 62, attributes := #[] }, { accessFlags := 26, nameIndex := 65, descriptorIndex := 62, attributes := #[] }, { accessFlags := 24, nameIndex := 430, descriptorIndex := 62, attributes := #[] }, { accessFlags := 4120, nameIndex := 46, descriptorIndex := 47, attributes := #[] }])
  fields := #[{ name := "HI_BYTE_SHIFT", type := .int, accessFlags := 26, slot := 0, constantValue := 0 }, { name := "LO_BYTE_SHIFT", type := .int, accessFlags := 26, slot := 1, constantValue := 0 }, { name := "MAX_LENGTH", type := .int, accessFlags := 24, slot := 2, constantValue := 0 }, { name := "$assertionsDisabled", type := .boolean, accessFlags := 4120, slot := 3, constantValue := 0 }]
  methods := #[k8m0, k8m1, k8m2, k8m3]
  instanceTypes := #[]
  staticTypes := #[.int, .int, .int, .boolean]
  resolved := Array.replicate 635 none
  statics := none }

def pool9 : Array CpInfo := pool [(1, .class_ 2), (0, u "java/lang/AutoCloseable"), (0, .class_ 4), (0, u "java/lang/Object")] 7

/-- java/lang/AutoCloseable -/
def k9 : Class := { plain "java/lang/AutoCloseable" (some 0) with
  accessFlags := 1537
  interfaces := #[]
  cf := some (fileOf pool9 1 #[] #[] 1537 3 #[] #[])
  fields := #[]
  methods := #[]
  instanceTypes := #[]
  staticTypes := #[]
  resolved := Array.replicate 12 none
  statics := none }

def pool10 : Array CpInfo := pool [(1, .class_ 2), (0, u "java/io/Closeable"), (0, .class_ 4), (0, u "java/lang/Object"), (0, .class_ 6), (0, u "java/lang/AutoCloseable")] 7

/-- java/io/Closeable -/
def k10 : Class := { plain "java/io/Closeable" (some 0) with
  accessFlags := 1537
  interfaces := #[9]
  cf := some (fileOf pool10 1 #[] #[] 1537 3 #[5] #[])
  fields := #[]
  methods := #[]
  instanceTypes := #[]
  staticTypes := #[]
  resolved := Array.replicate 14 none
  statics := none }

def pool11 : Array CpInfo := pool [(1, .methodref 2 3), (0, .class_ 4), (0, .nameAndType 5 6), (0, u "java/lang/Object"), (0, u "<init>"), (0, u "()V"), (0, .fieldref 8 9), (0, .class_ 10), (0, .nameAndType 11 12), (0, u "com/example/fieldwise/fieldwise/batch/BatchPart"), (0, u "mContentId"), (0, u "Ljava/lang/String;"), (0, .fieldref 8 14), (0, .nameAndType 15 12), (0, u "mProblem"), (0, .fieldref 8 17), (0, .nameAndType 18 19), (0, u "mProblemStatus"), (0, u "I"), (0, .fieldref 8 21), (0, .nameAndType 22 12), (0, u "mMethod"), (0, .fieldref 8 24), (0, .nameAndType 25 12), (0, u "mTarget"), (0, .fieldref 8 27), (0, .nameAndType 28 29), (0, u "mHeaders"), (0, u "Ljava/util/Map;"), (0, .fieldref 8 31), (0, .nameAndType 32 33), (0, u "mBody"), (0, u "Lcom/example/fieldwise/fieldwise/io/HeldOutput;"), (6, .methodref 8 41), (0, .nameAndType 5 42), (0, u "(Ljava/lang/String;Ljava/lang/String;ILjava/lang/String;Ljava/lang/String;Ljava/util/Map;Lcom/example/fieldwise/fieldwise/io/HeldOutput;)V"), (0, .interfaceMethodref 44 45), (0, .class_ 46), (0, .nameAndType 47 48), (0, u "java/util/Map"), (0, u "of"), (0, u "()Ljava/util/Map;"), (5, u "()J"), (12, .class_ 68), (0, u "java/io/Closeable"), (8, u "unreadable"), (0, u "(Ljava/lang/String;ILjava/lang/String;)Lcom/example/fieldwise/fieldwise/batch/BatchPart;"), (0, u "contentId"), (0, u "()Ljava/lang/String;"), (0, u "problem"), (0, u "problemStatus"), (0, u "()I"), (0, u "method"), (0, u "target"), (2, u "bodyLength")] 7

def k11c0 : Code := { maxStack := 2, maxLocals := 8, code := prog_3_method_1_code, exceptionTable := #[], attributes := #[] }
def k11m0 : Method := { name := "<init>", desc := "(Ljava/lang/String;Ljava/lang/String;ILjava/lang/String;Ljava/lang/String;Ljava/util/Map;Lcom/example/fieldwise/fieldwise/io/HeldOutput;)V", sig := { parameters := [(.object "java/lang/String"), (.object "java/lang/String"), .int, (.object "java/lang/String"), (.object "java/lang/String"), (.object "java/util/Map"), (.object "com/example/fieldwise/fieldwise/io/HeldOutput")], returnType := none }, accessFlags := 2, code := some k11c0 }
def k11c1 : Code := { maxStack := 9, maxLocals := 3, code := prog_3_method_3_code, exceptionTable := #[], attributes := #[] }
def k11m1 : Method := { name := "unreadable", desc := "(Ljava/lang/String;ILjava/lang/String;)Lcom/example/fieldwise/fieldwise/batch/BatchPart;", sig := { parameters := [(.object "java/lang/String"), .int, (.object "java/lang/String")], returnType := some (.object "com/example/fieldwise/fieldwise/batch/BatchPart") }, accessFlags := 8, code := some k11c1 }
def k11c2 : Code := { maxStack := 1, maxLocals := 1, code := prog_3_method_4_code, exceptionTable := #[], attributes := #[] }
def k11m2 : Method := { name := "contentId", desc := "()Ljava/lang/String;", sig := { parameters := [], returnType := some (.object "java/lang/String") }, accessFlags := 1, code := some k11c2 }
def k11c3 : Code := { maxStack := 1, maxLocals := 1, code := prog_3_method_5_code, exceptionTable := #[], attributes := #[] }
def k11m3 : Method := { name := "problem", desc := "()Ljava/lang/String;", sig := { parameters := [], returnType := some (.object "java/lang/String") }, accessFlags := 1, code := some k11c3 }
def k11c4 : Code := { maxStack := 1, maxLocals := 1, code := prog_3_method_6_code, exceptionTable := #[], attributes := #[] }
def k11m4 : Method := { name := "problemStatus", desc := "()I", sig := { parameters := [], returnType := some .int }, accessFlags := 1, code := some k11c4 }
def k11c5 : Code := { maxStack := 1, maxLocals := 1, code := prog_3_method_7_code, exceptionTable := #[], attributes := #[] }
def k11m5 : Method := { name := "method", desc := "()Ljava/lang/String;", sig := { parameters := [], returnType := some (.object "java/lang/String") }, accessFlags := 1, code := some k11c5 }
def k11c6 : Code := { maxStack := 1, maxLocals := 1, code := prog_3_method_8_code, exceptionTable := #[], attributes := #[] }
def k11m6 : Method := { name := "target", desc := "()Ljava/lang/String;", sig := { parameters := [], returnType := some (.object "java/lang/String") }, accessFlags := 1, code := some k11c6 }
def k11c7 : Code := { maxStack := 2, maxLocals := 1, code := prog_3_method_10_code, exceptionTable := #[], attributes := #[] }
def k11m7 : Method := { name := "bodyLength", desc := "()J", sig := { parameters := [], returnType := some .long }, accessFlags := 1, code := some k11c7 }
/-- com/example/fieldwise/fieldwise/batch/BatchPart -/
def k11 : Class := { plain "com/example/fieldwise/fieldwise/batch/BatchPart" (some 0) with
  accessFlags := 49
  interfaces := #[10]
  cf := some (fileOf pool11 8 #[] #[{ accessFlags := 2, nameIndex := 5, descriptorIndex := 42, attributes := #[] }, { accessFlags := 8, nameIndex := 77, descriptorIndex := 78, attributes := #[] }, { accessFlags := 1, nameIndex := 79, descriptorIndex := 80, attributes := #[] }, { accessFlags := 1, nameIndex := 81, descriptorIndex := 80, attributes := #[] }, { accessFlags := 1, nameIndex := 82, descriptorIndex := 83, attributes := #[] }, { accessFlags := 1, nameIndex := 84, descriptorIndex := 80, attributes := #[] }, { accessFlags := 1, nameIndex := 85, descriptorIndex := 80, attributes := #[] }, { accessFlags := 1, nameIndex := 88, descriptorIndex := 54, attributes := #[] }] 49 2 #[67] #[{ accessFlags := 18, nameIndex := 11, descriptorIndex := 12, attributes := #[] }, { accessFlags := 18, nameIndex := 15, descriptorIndex := 12, attributes := #[] }, { accessFlags := 18, nameIndex := 18, descriptorIndex := 19, attributes := #[] }, { accessFlags := 18, nameIndex := 22, descriptorIndex := 12, attributes := #[] }, { accessFlags := 18, nameIndex := 25, descriptorIndex := 12, attributes := #[] }, { accessFlags := 18, nameIndex := 28, descriptorIndex := 29, attributes := #[] }, { accessFlags := 18, nameIndex := 32, descriptorIndex := 33, attributes := #[] }])
  fields := #[{ name := "mContentId", type := (.object "java/lang/String"), accessFlags := 18, slot := 0, constantValue := 0 }, { name := "mProblem", type := (.object "java/lang/String"), accessFlags := 18, slot := 1, constantValue := 0 }, { name := "mProblemStatus", type := .int, accessFlags := 18, slot := 2, constantValue := 0 }, { name := "mMethod", type := (.object "java/lang/String"), accessFlags := 18, slot := 3, constantValue := 0 }, { name := "mTarget", type := (.object "java/lang/String"), accessFlags := 18, slot := 4, constantValue := 0 }, { name := "mHeaders", type := (.object "java/util/Map"), accessFlags := 18, slot := 5, constantValue := 0 }, { name := "mBody", type := (.object "com/example/fieldwise/fieldwise/io/HeldOutput"), accessFlags := 18, slot := 6, constantValue := 0 }]
  methods := #[k11m0, k11m1, k11m2, k11m3, k11m4, k11m5, k11m6, k11m7]
  instanceTypes := #[(.object "java/lang/String"), (.object "java/lang/String"), .int, (.object "java/lang/String"), (.object "java/lang/String"), (.object "java/util/Map"), (.object "com/example/fieldwise/fieldwise/io/HeldOutput")]
  staticTypes := #[]
  resolved := Array.replicate 96 none
  statics := none }

def pool12 : Array CpInfo := pool [(2, .class_ 4), (1, u "java/util/Map"), (31, .class_ 37), (0, u "java/util/Map$Entry"), (43, .fieldref 82 83), (0, .class_ 84), (0, .nameAndType 85 86), (0, u "java/util/ImmutableCollections"), (0, u "EMPTY_MAP"), (0, u "Ljava/util/ImmutableCollections$MapN;"), (6, .class_ 94), (0, u "java/lang/Object"), (13, u "of"), (0, u "()Ljava/util/Map;")] 153

def k12c0 : Code := { maxStack := 1, maxLocals := 0, code := jdk_72_method_26_code, exceptionTable := #[], attributes := #[] }
def k12m0 : Method := { name := "of", desc := "()Ljava/util/Map;", sig := { parameters := [], returnType := some (.object "java/util/Map") }, accessFlags := 9, code := some k12c0 }
/-- java/util/Map -/
def k12 : Class := { plain "java/util/Map" (some 0) with
  accessFlags := 1537
  interfaces := #[]
  cf := some (fileOf pool12 2 #[.nestMembers #[36]] #[{ accessFlags := 9, nameIndex := 108, descriptorIndex := 109, attributes := #[] }] 1537 93 #[] #[])
  fields := #[]
  methods := #[k12m0]
  instanceTypes := #[]
  staticTypes := #[]
  resolved := Array.replicate 263 none
  statics := none }

def pool13 : Array CpInfo := pool [(2, .class_ 4), (1, u "java/lang/Object"), (0, u "<init>"), (0, u "()V"), (3, .class_ 11), (0, u "java/util/ImmutableCollections$List12"), (0, .class_ 13), (0, u "java/util/ImmutableCollections$ListN"), (3, u "Z"), (29, .class_ 49), (1, u "java/util/ImmutableCollections"), (0, u "$assertionsDisabled"), (5, u "[Ljava/lang/Object;"), (5, u "EMPTY_LIST"), (0, u "Ljava/util/ImmutableCollections$ListN;"), (8, u "EMPTY_LIST_NULLS"), (22, u "SALT32L"), (0, u "J"), (2, u "REVERSE"), (6, u "archivedObjects"), (2, u "EMPTY"), (0, u "Ljava/lang/Object;"), (0, .class_ 112), (0, u "java/util/ImmutableCollections$SetN"), (5, u "EMPTY_SET"), (0, u "Ljava/util/ImmutableCollections$SetN;"), (0, .class_ 121), (0, u "java/util/ImmutableCollections$MapN"), (3, u "EMPTY_MAP"), (0, u "Ljava/util/ImmutableCollections$MapN;"), (4, u "EXPAND_FACTOR"), (0, u "I"), (36, .class_ 170), (0, u "java/util/ImmutableCollections$MapN$MapNIterator"), (0, .class_ 172), (0, u "java/util/ImmutableCollections$MapN$1"), (0, .class_ 174), (0, u "java/util/ImmutableCollections$Map1"), (0, .class_ 176), (0, u "java/util/ImmutableCollections$AbstractImmutableMap"), (0, .class_ 178), (0, u "java/util/ImmutableCollections$SetN$SetNIterator"), (0, .class_ 180), (0, u "java/util/ImmutableCollections$Set12"), (0, .class_ 182), (0, u "java/util/ImmutableCollections$Set12$1"), (0, .class_ 184), (0, u "java/util/ImmutableCollections$AbstractImmutableSet"), (0, .class_ 186), (0, u "java/util/ImmutableCollections$SubList"), (0, .class_ 188), (0, u "java/util/ImmutableCollections$ListItr"), (0, .class_ 190), (0, u "java/util/ImmutableCollections$AbstractImmutableList"), (0, .class_ 192), (0, u "java/util/ImmutableCollections$AbstractImmutableCollection"), (0, .class_ 194), (0, u "java/util/ImmutableCollections$Access"), (0, .class_ 196), (0, u "java/util/ImmutableCollections$Access$1")] 16

def k13m0 : Method := { name := "<init>", desc := "()V", sig := { parameters := [], returnType := none }, accessFlags := 2, code := none }
/-- java/util/ImmutableCollections -/
def k13 : Class := { plain "java/util/ImmutableCollections" (some 0) with
  accessFlags := 32
  interfaces := #[]
  cf := some (fileOf pool13 47 #[.nestMembers #[120, 169, 171, 173, 175, 111, 177, 179, 181, 183, 12, 10, 185, 187, 189, 191, 193, 195]] #[{ accessFlags := 2, nameIndex := 5, descriptorIndex := 6, attributes := #[] }] 32 2 #[] #[{ accessFlags := 26, nameIndex := 95, descriptorIndex := 96, attributes := #[] }, { accessFlags := 26, nameIndex := 99, descriptorIndex := 17, attributes := #[] }, { accessFlags := 10, nameIndex := 106, descriptorIndex := 56, attributes := #[] }, { accessFlags := 26, nameIndex := 109, descriptorIndex := 110, attributes := #[] }, { accessFlags := 24, nameIndex := 62, descriptorIndex := 63, attributes := #[] }, { accessFlags := 24, nameIndex := 72, descriptorIndex := 63, attributes := #[] }, { accessFlags := 24, nameIndex := 118, descriptorIndex := 119, attributes := #[] }, { accessFlags := 24, nameIndex := 125, descriptorIndex := 126, attributes := #[] }, { accessFlags := 24, nameIndex := 131, descriptorIndex := 132, attributes := #[] }, { accessFlags := 4120, nameIndex := 50, descriptorIndex := 17, attributes := #[] }])
  fields := #[{ name := "SALT32L", type := .long, accessFlags := 26, slot := 0, constantValue := 0 }, { name := "REVERSE", type := .boolean, accessFlags := 26, slot := 1, constantValue := 0 }, { name := "archivedObjects", type := (.array (.object "java/lang/Object")), accessFlags := 10, slot := 2, constantValue := 0 }, { name := "EMPTY", type := (.object "java/lang/Object"), accessFlags := 26, slot := 3, constantValue := 0 }, { name := "EMPTY_LIST", type := (.object "java/util/ImmutableCollections$ListN"), accessFlags := 24, slot := 4, constantValue := 0 }, { name := "EMPTY_LIST_NULLS", type := (.object "java/util/ImmutableCollections$ListN"), accessFlags := 24, slot := 5, constantValue := 0 }, { name := "EMPTY_SET", type := (.object "java/util/ImmutableCollections$SetN"), accessFlags := 24, slot := 6, constantValue := 0 }, { name := "EMPTY_MAP", type := (.object "java/util/ImmutableCollections$MapN"), accessFlags := 24, slot := 7, constantValue := 0 }, { name := "EXPAND_FACTOR", type := .int, accessFlags := 24, slot := 8, constantValue := 0 }, { name := "$assertionsDisabled", type := .boolean, accessFlags := 4120, slot := 9, constantValue := 0 }]
  methods := #[k13m0]
  instanceTypes := #[]
  staticTypes := #[.long, .boolean, (.array (.object "java/lang/Object")), (.object "java/lang/Object"), (.object "java/util/ImmutableCollections$ListN"), (.object "java/util/ImmutableCollections$ListN"), (.object "java/util/ImmutableCollections$SetN"), (.object "java/util/ImmutableCollections$MapN"), .int, .boolean]
  resolved := Array.replicate 213 none
  statics := some 1 }

def pool14 : Array CpInfo := pool [(4, .class_ 6), (1, u "java/lang/Object"), (0, u "<init>"), (0, u "()V"), (5, .class_ 16), (1, u "java/lang/StringLatin1"), (104, u "$assertionsDisabled"), (0, u "Z"), (98, .class_ 223), (1, u "java/lang/StringLatin1$LinesSpliterator"), (166, .class_ 391), (0, u "java/lang/StringLatin1$CharsSpliterator")] 3

def k14m0 : Method := { name := "<init>", desc := "()V", sig := { parameters := [], returnType := none }, accessFlags := 0, code := none }
/-- java/lang/StringLatin1 -/
def k14 : Class := { plain "java/lang/StringLatin1" (some 0) with
  accessFlags := 48
  interfaces := #[]
  cf := some (fileOf pool14 14 #[.nestMembers #[390, 221]] #[{ accessFlags := 0, nameIndex := 7, descriptorIndex := 8, attributes := #[] }] 48 4 #[] #[{ accessFlags := 4120, nameIndex := 121, descriptorIndex := 122, attributes := #[] }])
  fields := #[{ name := "$assertionsDisabled", type := .boolean, accessFlags := 4120, slot := 0, constantValue := 0 }]
  methods := #[k14m0]
  instanceTypes := #[]
  staticTypes := #[.boolean]
  resolved := Array.replicate 395 none
  statics := none }

def pool15 : Array CpInfo := pool [(2, .class_ 4), (1, u "java/lang/Object"), (0, u "<init>"), (0, u "()V"), (17, .class_ 26), (1, u "jdk/internal/util/Preconditions"), (28, .class_ 56), (0, u "jdk/internal/util/Preconditions$4"), (57, .class_ 115), (0, u "jdk/internal/util/Preconditions$1"), (7, u "SIOOBE_FORMATTER"), (0, u "Ljava/util/function/BiFunction;"), (0, .class_ 126), (0, u "jdk/internal/util/Preconditions$2"), (3, u "AIOOBE_FORMATTER"), (0, .class_ 132), (0, u "jdk/internal/util/Preconditions$3"), (3, u "IOOBE_FORMATTER")] 57

def k15m0 : Method := { name := "<init>", desc := "()V", sig := { parameters := [], returnType := none }, accessFlags := 1, code := none }
/-- jdk/internal/util/Preconditions -/
def k15 : Class := { plain "jdk/internal/util/Preconditions" (some 0) with
  accessFlags := 33
  interfaces := #[]
  cf := some (fileOf pool15 24 #[.nestMembers #[55, 131, 125, 114]] #[{ accessFlags := 1, nameIndex := 5, descriptorIndex := 6, attributes := #[] }] 33 2 #[] #[{ accessFlags := 25, nameIndex := 123, descriptorIndex := 124, attributes := #[] }, { accessFlags := 25, nameIndex := 130, descriptorIndex := 124, attributes := #[] }, { accessFlags := 25, nameIndex := 136, descriptorIndex := 124, attributes := #[] }])
  fields := #[{ name := "SIOOBE_FORMATTER", type := (.object "java/util/function/BiFunction"), accessFlags := 25, slot := 0, constantValue := 0 }, { name := "AIOOBE_FORMATTER", type := (.object "java/util/function/BiFunction"), accessFlags := 25, slot := 1, constantValue := 0 }, { name := "IOOBE_FORMATTER", type := (.object "java/util/function/BiFunction"), accessFlags := 25, slot := 2, constantValue := 0 }]
  methods := #[k15m0]
  instanceTypes := #[]
  staticTypes := #[(.object "java/util/function/BiFunction"), (.object "java/util/function/BiFunction"), (.object "java/util/function/BiFunction")]
  resolved := Array.replicate 194 none
  statics := some 2 }

def pool16 : Array CpInfo := pool [(9, u "<init>"), (6, .class_ 18), (1, u "java/lang/Object"), (0, u "()V"), (1, .class_ 23), (1, u "jdk/internal/util/ArraysSupport"), (0, u "LOG2_ARRAY_LONG_INDEX_SCALE"), (0, u "I"), (2, u "U"), (0, u "Ljdk/internal/misc/Unsafe;"), (8, u "BIG_ENDIAN"), (0, u "Z"), (8, u "LOG2_BYTE_BIT_SIZE"), (4, u "LOG2_ARRAY_INT_INDEX_SCALE"), (54, u "JLA"), (0, u "Ljdk/internal/access/JavaLangAccess;"), (11, u "LOG2_ARRAY_BOOLEAN_INDEX_SCALE"), (9, u "LOG2_ARRAY_BYTE_INDEX_SCALE"), (5, u "LOG2_ARRAY_CHAR_INDEX_SCALE"), (5, u "LOG2_ARRAY_SHORT_INDEX_SCALE"), (18, u "LOG2_ARRAY_FLOAT_INDEX_SCALE"), (24, u "LOG2_ARRAY_DOUBLE_INDEX_SCALE"), (89, u "T_BOOLEAN"), (2, u "T_CHAR"), (1, u "T_FLOAT"), (1, u "T_DOUBLE"), (1, u "T_BYTE"), (1, u "T_SHORT"), (1, u "T_INT"), (1, u "T_LONG"), (1, u "SOFT_MAX_ARRAY_LENGTH")] 83

def k16m0 : Method := { name := "<init>", desc := "()V", sig := { parameters := [], returnType := none }, accessFlags := 2, code := none }
/-- jdk/internal/util/ArraysSupport -/
def k16 : Class := { plain "jdk/internal/util/ArraysSupport" (some 0) with
  accessFlags := 33
  interfaces := #[]
  cf := some (fileOf pool16 21 #[] #[{ accessFlags := 2, nameIndex := 9, descriptorIndex := 19, attributes := #[] }] 33 16 #[] #[{ accessFlags := 24, nameIndex := 28, descriptorIndex := 29, attributes := #[] }, { accessFlags := 26, nameIndex := 38, descriptorIndex := 39, attributes := #[] }, { accessFlags := 25, nameIndex := 121, descriptorIndex := 25, attributes := #[] }, { accessFlags := 25, nameIndex := 131, descriptorIndex := 25, attributes := #[] }, { accessFlags := 25, nameIndex := 137, descriptorIndex := 25, attributes := #[] }, { accessFlags := 25, nameIndex := 143, descriptorIndex := 25, attributes := #[] }, { accessFlags := 25, nameIndex := 53, descriptorIndex := 25, attributes := #[] }, { accessFlags := 25, nameIndex := 24, descriptorIndex := 25, attributes := #[] }, { accessFlags := 25, nameIndex := 162, descriptorIndex := 25, attributes := #[] }, { accessFlags := 25, nameIndex := 187, descriptorIndex := 25, attributes := #[] }, { accessFlags := 26, nameIndex := 48, descriptorIndex := 25, attributes := #[] }, { accessFlags := 25, nameIndex := 277, descriptorIndex := 25, attributes := #[] }, { accessFlags := 25, nameIndex := 280, descriptorIndex := 25, attributes := #[] }, { accessFlags := 25, nameIndex := 282, descriptorIndex := 25, attributes := #[] }, { accessFlags := 25, nameIndex := 284, descriptorIndex := 25, attributes := #[] }, { accessFlags := 25, nameIndex := 286, descriptorIndex := 25, attributes := #[] }, { accessFlags := 25, nameIndex := 288, descriptorIndex := 25, attributes := #[] }, { accessFlags := 25, nameIndex := 290, descriptorIndex := 25, attributes := #[] }, { accessFlags := 25, nameIndex := 292, descriptorIndex := 25, attributes := #[] }, { accessFlags := 26, nameIndex := 108, descriptorIndex := 109, attributes := #[] }, { accessFlags := 25, nameIndex := 294, descriptorIndex := 25, attributes := #[] }])
  fields := #[{ name := "U", type := (.object "jdk/internal/misc/Unsafe"), accessFlags := 24, slot := 0, constantValue := 0 }, { name := "BIG_ENDIAN", type := .boolean, accessFlags := 26, slot := 1, constantValue := 0 }, { name := "LOG2_ARRAY_BOOLEAN_INDEX_SCALE", type := .int, accessFlags := 25, slot := 2, constantValue := 0 }, { name := "LOG2_ARRAY_BYTE_INDEX_SCALE", type := .int, accessFlags := 25, slot := 3, constantValue := 0 }, { name := "LOG2_ARRAY_CHAR_INDEX_SCALE", type := .int, accessFlags := 25, slot := 4, constantValue := 0 }, { name := "LOG2_ARRAY_SHORT_INDEX_SCALE", type := .int, accessFlags := 25, slot := 5, constantValue := 0 }, { name := "LOG2_ARRAY_INT_INDEX_SCALE", type := .int, accessFlags := 25, slot := 6, constantValue := 0 }, { name := "LOG2_ARRAY_LONG_INDEX_SCALE", type := .int, accessFlags := 25, slot := 7, constantValue := 0 }, { name := "LOG2_ARRAY_FLOAT_INDEX_SCALE", type := .int, accessFlags := 25, slot := 8, constantValue := 0 }, { name := "LOG2_ARRAY_DOUBLE_INDEX_SCALE", type := .int, accessFlags := 25, slot := 9, constantValue := 0 }, { name := "LOG2_BYTE_BIT_SIZE", type := .int, accessFlags := 26, slot := 10, constantValue := 0 }, { name := "T_BOOLEAN", type := .int, accessFlags := 25, slot := 11, constantValue := 0 }, { name := "T_CHAR", type := .int, accessFlags := 25, slot := 12, constantValue := 0 }, { name := "T_FLOAT", type := .int, accessFlags := 25, slot := 13, constantValue := 0 }, { name := "T_DOUBLE", type := .int, accessFlags := 25, slot := 14, constantValue := 0 }, { name := "T_BYTE", type := .int, accessFlags := 25, slot := 15, constantValue := 0 }, { name := "T_SHORT", type := .int, accessFlags := 25, slot := 16, constantValue := 0 }, { name := "T_INT", type := .int, accessFlags := 25, slot := 17, constantValue := 0 }, { name := "T_LONG", type := .int, accessFlags := 25, slot := 18, constantValue := 0 }, { name := "JLA", type := (.object "jdk/internal/access/JavaLangAccess"), accessFlags := 26, slot := 19, constantValue := 0 }, { name := "SOFT_MAX_ARRAY_LENGTH", type := .int, accessFlags := 25, slot := 20, constantValue := 0 }]
  methods := #[k16m0]
  instanceTypes := #[]
  staticTypes := #[(.object "jdk/internal/misc/Unsafe"), .boolean, .int, .int, .int, .int, .int, .int, .int, .int, .int, .int, .int, .int, .int, .int, .int, .int, .int, (.object "jdk/internal/access/JavaLangAccess"), .int]
  resolved := Array.replicate 378 none
  statics := none }

def pool17 : Array CpInfo := pool [(2, .class_ 4), (1, u "java/lang/Object"), (0, u "<init>"), (0, u "()V"), (1, .class_ 10), (1, u "java/util/AbstractMap"), (42, .class_ 54), (0, u "java/util/Map"), (9, u "keySet"), (0, u "Ljava/util/Set;"), (0, .class_ 67), (0, u "java/util/AbstractMap$1"), (5, u "values"), (0, u "Ljava/util/Collection;"), (0, .class_ 76), (0, u "java/util/AbstractMap$2"), (104, .class_ 182), (0, u "java/util/AbstractMap$ViewCollection"), (0, .class_ 184), (0, u "java/util/AbstractMap$SimpleImmutableEntry"), (0, .class_ 186), (0, u "java/util/AbstractMap$SimpleEntry"), (0, .class_ 188), (0, u "java/util/AbstractMap$2$1"), (0, .class_ 190), (0, u "java/util/AbstractMap$1$1")] 5

def k17m0 : Method := { name := "<init>", desc := "()V", sig := { parameters := [], returnType := none }, accessFlags := 4, code := none }
/-- java/util/AbstractMap -/
def k17 : Class := { plain "java/util/AbstractMap" (some 0) with
  accessFlags := 1057
  interfaces := #[12]
  cf := some (fileOf pool17 8 #[.nestMembers #[181, 183, 185, 75, 187, 66, 189]] #[{ accessFlags := 4, nameIndex := 5, descriptorIndex := 6, attributes := #[] }] 1057 2 #[53] #[{ accessFlags := 128, nameIndex := 64, descriptorIndex := 65, attributes := #[] }, { accessFlags := 128, nameIndex := 73, descriptorIndex := 74, attributes := #[] }])
  fields := #[{ name := "keySet", type := (.object "java/util/Set"), accessFlags := 128, slot := 0, constantValue := 0 }, { name := "values", type := (.object "java/util/Collection"), accessFlags := 128, slot := 1, constantValue := 0 }]
  methods := #[k17m0]
  instanceTypes := #[(.object "java/util/Set"), (.object "java/util/Collection")]
  staticTypes := #[]
  resolved := Array.replicate 196 none
  statics := none }

def pool18 : Array CpInfo := pool [(2, .class_ 4), (1, u "java/util/AbstractMap"), (0, u "<init>"), (0, u "()V"), (1, .class_ 10), (1, u "java/util/ImmutableCollections"), (3, .class_ 16), (1, u "java/util/ImmutableCollections$AbstractImmutableMap"), (2, .class_ 20), (0, u "java/io/Serializable")] 66

def k18m0 : Method := { name := "<init>", desc := "()V", sig := { parameters := [], returnType := none }, accessFlags := 0, code := none }
/-- java/util/ImmutableCollections$AbstractImmutableMap -/
def k18 : Class := { plain "java/util/ImmutableCollections$AbstractImmutableMap" (some 17) with
  accessFlags := 1056
  interfaces := #[2]
  cf := some (fileOf pool18 14 #[.nestHost 8] #[{ accessFlags := 0, nameIndex := 5, descriptorIndex := 6, attributes := #[] }] 1056 2 #[19] #[])
  fields := #[]
  methods := #[k18m0]
  instanceTypes := #[(.object "java/util/Set"), (.object "java/util/Collection")]
  staticTypes := #[]
  resolved := Array.replicate 87 none
  statics := none }

def pool19 : Array CpInfo := pool [(1, .class_ 2), (0, u "java/util/ImmutableCollections"), (1, .class_ 6), (1, u "java/util/ImmutableCollections$AbstractImmutableMap"), (10, .class_ 19), (1, u "java/util/ImmutableCollections$MapN"), (0, u "size"), (0, u "I"), (4, u "table"), (0, u "[Ljava/lang/Object;")] 121

/-- java/util/ImmutableCollections$MapN -/
def k19 : Class := { plain "java/util/ImmutableCollections$MapN" (some 18) with
  accessFlags := 48
  interfaces := #[]
  cf := some (fileOf pool19 17 #[.nestHost 1] #[] 48 4 #[] #[{ accessFlags := 16, nameIndex := 26, descriptorIndex := 27, attributes := #[] }, { accessFlags := 16, nameIndex := 20, descriptorIndex := 21, attributes := #[] }])
  fields := #[{ name := "table", type := (.array (.object "java/lang/Object")), accessFlags := 16, slot := 2, constantValue := 0 }, { name := "size", type := .int, accessFlags := 16, slot := 3, constantValue := 0 }]
  methods := #[]
  instanceTypes := #[(.object "java/util/Set"), (.object "java/util/Collection"), (.array (.object "java/lang/Object")), .int]
  staticTypes := #[]
  resolved := Array.replicate 149 none
  statics := none }

def pool20 : Array CpInfo := pool [(1, u "java/lang/Cloneable"), (0, .class_ 1), (0, u "java/lang/Object"), (0, .class_ 3)] 3

/-- java/lang/Cloneable -/
def k20 : Class := { plain "java/lang/Cloneable" (some 0) with
  accessFlags := 1537
  interfaces := #[]
  cf := some (fileOf pool20 2 #[] #[] 1537 4 #[] #[])
  fields := #[]
  methods := #[]
  instanceTypes := #[]
  staticTypes := #[]
  resolved := Array.replicate 8 none
  statics := none }

/-- the primitive byte -/
def k21 : Class := { plain "byte" none with kind := .primitive 'B', accessFlags := 0x411 }
/-- [B -/
def k22 : Class := { plain "[B" (some 0) with kind := .array 21 .byte, interfaces := #[20, 2], accessFlags := 1041 }

/-- the primitive char -/
def k23 : Class := { plain "char" none with kind := .primitive 'C', accessFlags := 0x411 }
/-- [C -/
def k24 : Class := { plain "[C" (some 0) with kind := .array 23 .char, interfaces := #[20, 2], accessFlags := 1041 }

/-- the primitive int -/
def k25 : Class := { plain "int" none with kind := .primitive 'I', accessFlags := 0x411 }
/-- [I -/
def k26 : Class := { plain "[I" (some 0) with kind := .array 25 .int, interfaces := #[20, 2], accessFlags := 1041 }

/-- [Ljava/lang/Object; -/
def k27 : Class := { plain "[Ljava/lang/Object;" (some 0) with kind := .array 0 (.object "java/lang/Object"), interfaces := #[20, 2], accessFlags := 1041 }

def heap : Heap := #[{ cls := 7, slots := #[.long 0, .int 1, .null, .int 0, .null, .int 0, .int 0], vm := .statics 7 },
  { cls := 13, slots := #[.long 0, .int 0, .null, .null, .null, .null, .null, .ref 4, .int 0, .int 0], vm := .statics 13 },
  { cls := 15, slots := #[.null, .null, .null], vm := .statics 15 },
  { cls := 27, slots := #[], vm := .none },
  { cls := 19, slots := #[.null, .null, .ref 3, .int 0], vm := .none }]
def classes : Array Class := #[k0, k1, k2, k3, k4, k5, k6, k7, k8, k9, k10, k11, k12, k13, k14, k15, k16, k17, k18, k19, k20, k21, k22, k23, k24, k25, k26, k27]
def interned : List (Array UInt16 × Addr) := []
def slotsUsed : Nat := 24
def theMethod : MethodId := ⟨1, 1⟩
def args0 : Array Value := #[.int 65, .int 66, .int 400, .int 1]
def aboutOver (below : List Frame) : State where
  vm := { classes := classes, interned := interned.toArray }
  heap := heap
  slotsUsed := slotsUsed
  threads := #[{ frames := .invoking theMethod args0 :: below }]
def below0 : List Frame := [.native { method := ⟨0, 0⟩, args := #[] }]
def about1 : State := aboutOver below0
def p0 : Program := .bare "" "" ""
def e0 : Env := launch0.env 0 0 0
theorem w_frames : about1.frames = Frame.invoking theMethod args0 :: below0 := rfl
set_option maxRecDepth 65536 in
theorem w_args : argsFit about1.vm theMethod args0 = true := by decide +kernel
set_option maxRecDepth 65536 in
theorem w_heap : heapFits about1 = true := by decide +kernel
set_option maxRecDepth 65536 in
theorem w_runnable : about1.curStatus? = some .runnable := by decide +kernel
set_option maxRecDepth 65536 in
theorem w_alone : about1.alone = true := by decide +kernel
set_option maxRecDepth 65536 in
theorem w_named : about1.methodNamed? x = some theMethod := by decide +kernel
set_option maxRecDepth 65536 in
theorem w_hears : about1.hears theMethod below0 = true := by decide +kernel
set_option maxRecDepth 65536 in
theorem w_ripe : about1.ripe theMethod args0 below0 = true := by decide +kernel
theorem w_running : about1.status = .running := rfl
set_option maxRecDepth 65536 in
theorem w_room : about1.hasRoom e0.platform room_1 = true :=
  launch0.hasRoom_least _ room_1 (by decide +kernel) (by decide +kernel) (by decide +kernel) (by decide +kernel) (by decide +kernel) (by decide +kernel)
theorem allAtoms_all (ts : List Jvm.Cond) (a : Array Jvm.Value) (st : Jvm.State) : (allAtoms ts).before a st = ts.all (fun c => c.before a st) := by
  induction ts with
  | nil => rfl
  | cons c t ih =>
    show (Jvm.Cond.and c (allAtoms t)).before a st = _
    rw [Jvm.Cond.before_and, ih, List.all_cons]
def words1 : List Jvm.Cond := Jvm.Cond.code x code maxLocals ret :: tables_1
/-- a 'code' word, met by the world's own term for the bytes: nothing is compared byte by byte -/
theorem code_word {y : MethodName} {bytes : ByteArray} {mx : Nat} {rt : Option FieldType} {a : Array Value} {s : State} {m : MethodId} {meth : Method} {c : Code} (h1 : s.methodNamed? y = some m) (h2 : s.vm.method? m = some meth) (h3 : meth.code = some c) (h4 : c.code = bytes)
    (h5 : (c.maxLocals == mx && c.exceptionTable.isEmpty && decide (c.maxStack ≤ mostOperands) && decide (meth.sig.returnType = rt) && !meth.locks && decide (parseMethodDescriptor y.desc = some meth.sig)) = true) : (Jvm.Cond.code y bytes mx rt).before a s = true := by
  simp only [Bool.and_eq_true, beq_iff_eq, Bool.not_eq_true', decide_eq_true_eq] at h5
  obtain ⟨⟨⟨⟨⟨g1, g2⟩, g3⟩, g4⟩, g5⟩, g6⟩ := h5
  simp [Cond.before, Cond.holds, Cond.value, h1, h2, h3, h4, g1, g2, g3, g4, g5, g6]
def isCode : Jvm.Cond → Bool
  | .code _ _ _ _ => true
  | _ => false
theorem all_split {L : List Jvm.Cond} {P : Jvm.Cond → Bool} (h1 : L.all (fun c => isCode c || P c) = true) (h2 : ∀ c ∈ L.filter isCode, P c = true) : L.all P = true := by
  refine List.all_eq_true.mpr fun c hc => ?_
  have h := List.all_eq_true.mp h1 c hc
  rcases Bool.eq_false_or_eq_true (isCode c) with hi | hi
  · exact h2 c (List.mem_filter.mpr ⟨hc, hi⟩)
  · simpa [hi] using h
set_option maxRecDepth 65536 in
theorem w_c0 : (Jvm.Cond.code x code maxLocals ret).before args0 about1 = true := code_word (m := ⟨1, 1⟩) (meth := k1m1) (c := k1c1) (by decide +kernel) rfl rfl rfl (by decide +kernel)
set_option maxRecDepth 65536 in
theorem w_c1 : (Jvm.Cond.code ({ cls := "java/lang/String", name := "<init>", desc := "([C)V" } : Jvm.MethodName) jdk_42_method_3_code (2 : Nat) (Option.none : Option Jvm.ClassFile.FieldType)).before args0 about1 = true := code_word (m := ⟨7, 1⟩) (meth := k7m1) (c := k7c1) (by decide +kernel) rfl rfl rfl (by decide +kernel)
set_option maxRecDepth 65536 in
theorem w_c2 : (Jvm.Cond.code ({ cls := "java/lang/String", name := "<init>", desc := "([CIILjava/lang/Void;)V" } : Jvm.MethodName) jdk_42_method_149_code (6 : Nat) (Option.none : Option Jvm.ClassFile.FieldType)).before args0 about1 = true := code_word (m := ⟨7, 2⟩) (meth := k7m2) (c := k7c2) (by decide +kernel) rfl rfl rfl (by decide +kernel)
set_option maxRecDepth 65536 in
theorem w_c3 : (Jvm.Cond.code ({ cls := "java/lang/Object", name := "<init>", desc := "()V" } : Jvm.MethodName) object_method_1_code (1 : Nat) (Option.none : Option Jvm.ClassFile.FieldType)).before args0 about1 = true := code_word (m := ⟨0, 0⟩) (meth := k0m0) (c := k0c0) (by decide +kernel) rfl rfl rfl (by decide +kernel)
set_option maxRecDepth 65536 in
theorem w_c4 : (Jvm.Cond.code ({ cls := "java/lang/StringUTF16", name := "compress", desc := "([CII)[B" } : Jvm.MethodName) jdk_52_method_16_code (6 : Nat) (Option.some (Jvm.ClassFile.FieldType.array Jvm.ClassFile.FieldType.byte))).before args0 about1 = true := code_word (m := ⟨8, 2⟩) (meth := k8m2) (c := k8c2) (by decide +kernel) rfl rfl rfl (by decide +kernel)
set_option maxRecDepth 65536 in
theorem w_c5 : (Jvm.Cond.code ({ cls := "java/lang/StringUTF16", name := "compress", desc := "([CI[BII)I" } : Jvm.MethodName) jdk_52_method_21_code (7 : Nat) (Option.some Jvm.ClassFile.FieldType.int)).before args0 about1 = true := code_word (m := ⟨8, 3⟩) (meth := k8m3) (c := k8c3) (by decide +kernel) rfl rfl rfl (by decide +kernel)
set_option maxRecDepth 65536 in
theorem w_c6 : (Jvm.Cond.code ({ cls := "java/lang/StringUTF16", name := "coderFromArrayLen", desc := "([BI)B" } : Jvm.MethodName) jdk_52_method_15_code (2 : Nat) (Option.some Jvm.ClassFile.FieldType.byte)).before args0 about1 = true := code_word (m := ⟨8, 1⟩) (meth := k8m1) (c := k8c1) (by decide +kernel) rfl rfl rfl (by decide +kernel)
set_option maxRecDepth 65536 in
theorem w_c7 : (Jvm.Cond.code ({ cls := "com/example/fieldwise/fieldwise/batch/BatchPart", name := "unreadable", desc := "(Ljava/lang/String;ILjava/lang/String;)Lcom/example/fieldwise/fieldwise/batch/BatchPart;" } : Jvm.MethodName) prog_3_method_3_code (3 : Nat) (Option.some (Jvm.ClassFile.FieldType.object "com/example/fieldwise/fieldwise/batch/BatchPart"))).before args0 about1 = true := code_word (m := ⟨11, 1⟩) (meth := k11m1) (c := k11c1) (by decide +kernel) rfl rfl rfl (by decide +kernel)
set_option maxRecDepth 65536 in
theorem w_c8 : (Jvm.Cond.code ({ cls := "java/util/Map", name := "of", desc := "()Ljava/util/Map;" } : Jvm.MethodName) jdk_72_method_26_code (0 : Nat) (Option.some (Jvm.ClassFile.FieldType.object "java/util/Map"))).before args0 about1 = true := code_word (m := ⟨12, 0⟩) (meth := k12m0) (c := k12c0) (by decide +kernel) rfl rfl rfl (by decide +kernel)
set_option maxRecDepth 65536 in
theorem w_c9 : (Jvm.Cond.code ({ cls := "com/example/fieldwise/fieldwise/batch/BatchPart", name := "<init>", desc := "(Ljava/lang/String;Ljava/lang/String;ILjava/lang/String;Ljava/lang/String;Ljava/util/Map;Lcom/example/fieldwise/fieldwise/io/HeldOutput;)V" } : Jvm.MethodName) prog_3_method_1_code (8 : Nat) (Option.none : Option Jvm.ClassFile.FieldType)).before args0 about1 = true := code_word (m := ⟨11, 0⟩) (meth := k11m0) (c := k11c0) (by decide +kernel) rfl rfl rfl (by decide +kernel)
set_option maxRecDepth 65536 in
theorem w_c10 : (Jvm.Cond.code ({ cls := "com/example/fieldwise/fieldwise/batch/BatchPart", name := "contentId", desc := "()Ljava/lang/String;" } : Jvm.MethodName) prog_3_method_4_code (1 : Nat) (Option.some (Jvm.ClassFile.FieldType.object "java/lang/String"))).before args0 about1 = true := code_word (m := ⟨11, 2⟩) (meth := k11m2) (c := k11c2) (by decide +kernel) rfl rfl rfl (by decide +kernel)
set_option maxRecDepth 65536 in
theorem w_c11 : (Jvm.Cond.code ({ cls := "com/example/fieldwise/fieldwise/batch/BatchPart", name := "problem", desc := "()Ljava/lang/String;" } : Jvm.MethodName) prog_3_method_5_code (1 : Nat) (Option.some (Jvm.ClassFile.FieldType.object "java/lang/String"))).before args0 about1 = true := code_word (m := ⟨11, 3⟩) (meth := k11m3) (c := k11c3) (by decide +kernel) rfl rfl rfl (by decide +kernel)
set_option maxRecDepth 65536 in
theorem w_c12 : (Jvm.Cond.code ({ cls := "com/example/fieldwise/fieldwise/batch/BatchPart", name := "problemStatus", desc := "()I" } : Jvm.MethodName) prog_3_method_6_code (1 : Nat) (Option.some Jvm.ClassFile.FieldType.int)).before args0 about1 = true := code_word (m := ⟨11, 4⟩) (meth := k11m4) (c := k11c4) (by decide +kernel) rfl rfl rfl (by decide +kernel)
set_option maxRecDepth 65536 in
theorem w_c13 : (Jvm.Cond.code ({ cls := "com/example/fieldwise/fieldwise/batch/BatchPart", name := "method", desc := "()Ljava/lang/String;" } : Jvm.MethodName) prog_3_method_7_code (1 : Nat) (Option.some (Jvm.ClassFile.FieldType.object "java/lang/String"))).before args0 about1 = true := code_word (m := ⟨11, 5⟩) (meth := k11m5) (c := k11c5) (by decide +kernel) rfl rfl rfl (by decide +kernel)
set_option maxRecDepth 65536 in
theorem w_c14 : (Jvm.Cond.code ({ cls := "com/example/fieldwise/fieldwise/batch/BatchPart", name := "target", desc := "()Ljava/lang/String;" } : Jvm.MethodName) prog_3_method_8_code (1 : Nat) (Option.some (Jvm.ClassFile.FieldType.object "java/lang/String"))).before args0 about1 = true := code_word (m := ⟨11, 6⟩) (meth := k11m6) (c := k11c6) (by decide +kernel) rfl rfl rfl (by decide +kernel)
set_option maxRecDepth 65536 in
theorem w_c15 : (Jvm.Cond.code ({ cls := "com/example/fieldwise/fieldwise/batch/BatchPart", name := "bodyLength", desc := "()J" } : Jvm.MethodName) prog_3_method_10_code (1 : Nat) (Option.some Jvm.ClassFile.FieldType.long)).before args0 about1 = true := code_word (m := ⟨11, 7⟩) (meth := k11m7) (c := k11c7) (by decide +kernel) rfl rfl rfl (by decide +kernel)
def codes1 : List Jvm.Cond := [Jvm.Cond.code x code maxLocals ret, Jvm.Cond.code ({ cls := "java/lang/String", name := "<init>", desc := "([C)V" } : Jvm.MethodName) jdk_42_method_3_code (2 : Nat) (Option.none : Option Jvm.ClassFile.FieldType), Jvm.Cond.code ({ cls := "java/lang/String", name := "<init>", desc := "([CIILjava/lang/Void;)V" } : Jvm.MethodName) jdk_42_method_149_code (6 : Nat) (Option.none : Option Jvm.ClassFile.FieldType), Jvm.Cond.code ({ cls := "java/lang/Object", name := "<init>", desc := "()V" } : Jvm.MethodName) object_method_1_code (1 : Nat) (Option.none : Option Jvm.ClassFile.FieldType), Jvm.Cond.code ({ cls := "java/lang/StringUTF16", name := "compress", desc := "([CII)[B" } : Jvm.MethodName) jdk_52_method_16_code (6 : Nat) (Option.some (Jvm.ClassFile.FieldType.array Jvm.ClassFile.FieldType.byte)), Jvm.Cond.code ({ cls := "java/lang/StringUTF16", name := "compress", desc := "([CI[BII)I" } : Jvm.MethodName) jdk_52_method_21_code (7 : Nat) (Option.some Jvm.ClassFile.FieldType.int), Jvm.Cond.code ({ cls := "java/lang/StringUTF16", name := "coderFromArrayLen", desc := "([BI)B" } : Jvm.MethodName) jdk_52_method_15_code (2 : Nat) (Option.some Jvm.ClassFile.FieldType.byte), Jvm.Cond.code ({ cls := "com/example/fieldwise/fieldwise/batch/BatchPart", name := "unreadable", desc := "(Ljava/lang/String;ILjava/lang/String;)Lcom/example/fieldwise/fieldwise/batch/BatchPart;" } : Jvm.MethodName) prog_3_method_3_code (3 : Nat) (Option.some (Jvm.ClassFile.FieldType.object "com/example/fieldwise/fieldwise/batch/BatchPart")), Jvm.Cond.code ({ cls := "java/util/Map", name := "of", desc := "()Ljava/util/Map;" } : Jvm.MethodName) jdk_72_method_26_code (0 : Nat) (Option.some (Jvm.ClassFile.FieldType.object "java/util/Map")), Jvm.Cond.code ({ cls := "com/example/fieldwise/fieldwise/batch/BatchPart", name := "<init>", desc := "(Ljava/lang/String;Ljava/lang/String;ILjava/lang/String;Ljava/lang/String;Ljava/util/Map;Lcom/example/fieldwise/fieldwise/io/HeldOutput;)V" } : Jvm.MethodName) prog_3_method_1_code (8 : Nat) (Option.none : Option Jvm.ClassFile.FieldType), Jvm.Cond.code ({ cls := "com/example/fieldwise/fieldwise/batch/BatchPart", name := "contentId", desc := "()Ljava/lang/String;" } : Jvm.MethodName) prog_3_method_4_code (1 : Nat) (Option.some (Jvm.ClassFile.FieldType.object "java/lang/String")), Jvm.Cond.code ({ cls := "com/example/fieldwise/fieldwise/batch/BatchPart", name := "problem", desc := "()Ljava/lang/String;" } : Jvm.MethodName) prog_3_method_5_code (1 : Nat) (Option.some (Jvm.ClassFile.FieldType.object "java/lang/String")), Jvm.Cond.code ({ cls := "com/example/fieldwise/fieldwise/batch/BatchPart", name := "problemStatus", desc := "()I" } : Jvm.MethodName) prog_3_method_6_code (1 : Nat) (Option.some Jvm.ClassFile.FieldType.int), Jvm.Cond.code ({ cls := "com/example/fieldwise/fieldwise/batch/BatchPart", name := "method", desc := "()Ljava/lang/String;" } : Jvm.MethodName) prog_3_method_7_code (1 : Nat) (Option.some (Jvm.ClassFile.FieldType.object "java/lang/String")), Jvm.Cond.code ({ cls := "com/example/fieldwise/fieldwise/batch/BatchPart", name := "target", desc := "()Ljava/lang/String;" } : Jvm.MethodName) prog_3_method_8_code (1 : Nat) (Option.some (Jvm.ClassFile.FieldType.object "java/lang/String")), Jvm.Cond.code ({ cls := "com/example/fieldwise/fieldwise/batch/BatchPart", name := "bodyLength", desc := "()J" } : Jvm.MethodName) prog_3_method_10_code (1 : Nat) (Option.some Jvm.ClassFile.FieldType.long)]
set_option maxRecDepth 65536 in
theorem codes_eq : words1.filter isCode = codes1 := rfl
theorem w_codes : ∀ c ∈ words1.filter isCode, c.before args0 about1 = true := by
  rw [codes_eq]
  intro c hc
  simp only [codes1, List.mem_cons, List.not_mem_nil, or_false] at hc
  rcases hc with rfl | rfl | rfl | rfl | rfl | rfl | rfl | rfl | rfl | rfl | rfl | rfl | rfl | rfl | rfl | rfl
  · exact w_c0
  · exact w_c1
  · exact w_c2
  · exact w_c3
  · exact w_c4
  · exact w_c5
  · exact w_c6
  · exact w_c7
  · exact w_c8
  · exact w_c9
  · exact w_c10
  · exact w_c11
  · exact w_c12
  · exact w_c13
  · exact w_c14
  · exact w_c15
set_option maxRecDepth 65536 in
theorem w_t1 : (words1.take 24).all (fun c => isCode c || c.before args0 about1) = true := by decide +kernel
set_option maxRecDepth 65536 in
theorem w_t2 : ((words1.drop 24).take 24).all (fun c => isCode c || c.before args0 about1) = true := by decide +kernel
set_option maxRecDepth 65536 in
theorem w_t3 : (((words1.drop 24).drop 24).take 24).all (fun c => isCode c || c.before args0 about1) = true := by decide +kernel
set_option maxRecDepth 65536 in
theorem w_t4 : (((words1.drop 24).drop 24).drop 24).all (fun c => isCode c || c.before args0 about1) = true := by decide +kernel
theorem w_tables : (allAtoms (Jvm.Cond.code x code maxLocals ret :: tables_1)).before args0 about1 = true := by
  rw [allAtoms_all]
  show words1.all (fun c => c.before args0 about1) = true
  refine all_split ?_ w_codes
  rw [← List.take_append_drop 24 words1, List.all_append, w_t1, ← List.take_append_drop 24 (words1.drop 24), List.all_append, w_t2, ← List.take_append_drop 24 ((words1.drop 24).drop 24), List.all_append, w_t3, w_t4]
  rfl
set_option maxRecDepth 65536 in
theorem w_rest : rest_1_c.before args0 about1 = true := by decide +kernel
set_option maxRecDepth 65536 in
theorem w_case : (Jvm.Cond.and given_1 narrow_1).before args0 about1 = true := by decide +kernel
theorem w_applies : (headSpec (Jvm.Cond.code x code maxLocals ret :: tables_1) room_1).applies x e0.platform about1 = true :=
  (Spec.applies_iff w_frames).mpr ⟨w_running, w_runnable, w_alone, w_named, w_hears, w_ripe, w_room, w_tables⟩
theorem atStart : AtStart classFile x code maxLocals ret World_1 tables_1 room_1 Calls_1 rest_1 Pre_1 launch0 p0 e0 about1 theMethod args0 below0 :=
  ⟨lists_1, trivial, launch0.admits_env _ _ _, launch0.least_env, fairChoices_fair.cas, fairChoices_fair.clock, w_frames, w_args, w_heap, w_applies, trivial, w_rest, w_case⟩
end start1
theorem witness_1 : WitnessClaimed_1 := ⟨start1.p0, start1.e0, start1.about1, start1.theMethod, start1.args0, start1.below0, start1.atStart⟩
end Jvm.Pilot.@@N@@
