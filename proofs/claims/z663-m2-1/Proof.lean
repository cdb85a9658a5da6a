import JvmDerived
import JvmDerived.Pilot.@@N@@Statement
import JvmDerived.Pilot.@@N@@Code
set_option linter.unusedVariables false
set_option linter.unusedSimpArgs false
/- laws to paste: Road.backV (cut by pick.py; bodies as the Statement names them) -/
namespace Jvm.Pilot.@@N@@
namespace StrChars
open Jvm Sem ClassFile Op Lib Jvm.Stand Jvm.Free.XT Jvm.Free.ALB Jvm.Free.JM Jvm.Free
open Jvm.Lib.Cold (StaticIs)
/-- a char array whose places are chars -/
def Ch (a : Addr) (A : Cell) (U : State) : Prop := Arr .char a A U ∧ Typed .char A
theorem Ch.mv {a : Addr} {A : Cell} {U U' : State} (h : Ch a A U) (hal : U.vm.Alike U'.vm) (hh : U'.heap = U.heap) : Ch a A U' := ⟨h.1.mv hal hh, h.2⟩
theorem Ch.keep {a : Addr} {A : Cell} {U U' : State} (h : Ch a A U) (hal : U.vm.Alike U'.vm) (hk : U'.heap[a]? = some A) : Ch a A U' := ⟨h.1.keep hal hk, h.2⟩
/-- what place i of a char[]'s cell holds -/
def cv (A : Cell) (i : Nat) : Int32 := match A.slots[i]? with | some (.int x) => x | _ => 0
theorem Ch.get {a : Addr} {A : Cell} {U : State} (h : Ch a A U) {i : Nat} (hi : i < A.slots.size) : A.slots[i]? = some (.int (cv A i)) := by
  have e := Array.getElem?_eq_getElem hi
  have f := h.2 i _ e
  unfold cv; rw [e]
  generalize A.slots[i] = v at f
  cases v <;> simp [fits] at f ⊢
/-- the byte that i2b leaves of a char -/
def lo8 (x : Int32) : Int32 := x.toInt8.toInt32
theorem fits_lo8 (y : Int32) : fits .byte (.int (lo8 y)) = true := by
  have h1 := y.toInt8.le_toInt
  have h2 := y.toInt8.toInt_lt
  simp only [lo8, fits, Bool.and_eq_true, decide_eq_true_eq, Int32.le_iff_toInt_le, Int8.toInt_toInt32, show (-128 : Int32).toInt = -128 from by decide, show (127 : Int32).toInt = 127 from by decide]
  omega
/-- A' is A but that each place j of lo .. hi - 1 holds f j -/
def Laid (A A' : Cell) (lo hi : Nat) (f : Nat → Value) : Prop := A'.cls = A.cls ∧ A'.vm = A.vm ∧ A'.slots.size = A.slots.size ∧ ∀ i, A'.slots[i]? = if lo ≤ i ∧ i < hi then some (f i) else A.slots[i]?
theorem Laid.zero (A : Cell) (lo : Nat) (f : Nat → Value) : Laid A A lo (lo + 0) f := ⟨rfl, rfl, rfl, fun i => by rw [if_neg (by omega)]⟩
theorem Laid.step {A Ak : Cell} {lo k : Nat} {f : Nat → Value} {v : Value} (h : Laid A Ak lo k f) (hlo : lo ≤ k) (hk : k < Ak.slots.size) (hv : v = f k) : Laid A (Ak.setSlot k v) lo (k + 1) f := by
  refine ⟨h.1, h.2.1, by simpa [Cell.setSlot] using h.2.2.1, fun i => ?_⟩
  by_cases e : k = i
  · subst e; rw [Cell.slots_setSlot_self v hk, if_pos (by omega), hv]
  · rw [Cell.slots_setSlot_ne v e, h.2.2.2 i]
    by_cases q : lo ≤ i ∧ i < k
    · rw [if_pos q, if_pos (by omega)]
    · rw [if_neg q, if_neg (by omega)]
def U16 : String := "java/lang/StringUTF16"
namespace Cmp5
def yN : MethodName := ⟨"java/lang/StringUTF16", "compress", "([CI[BII)I"⟩
abbrev yB : ByteArray := jdk_52_method_21_code
theorem d0 : decode yB 0 = .ok (.iconst 0, 1) := by decide +kernel
theorem d1 : decode yB 1 = .ok (.istore 5, 2) := by decide +kernel
theorem d3 : decode yB 3 = .ok (.iload 5, 2) := by decide +kernel
theorem d5 : decode yB 5 = .ok (.iload 4, 2) := by decide +kernel
theorem d7 : decode yB 7 = .ok (.if_icmp (.ge) 37, 3) := by decide +kernel
theorem d10 : decode yB 10 = .ok (.aload_n 0, 1) := by decide +kernel
theorem d11 : decode yB 11 = .ok (.iload_n 1, 1) := by decide +kernel
theorem d12 : decode yB 12 = .ok (.caload, 1) := by decide +kernel
theorem d13 : decode yB 13 = .ok (.istore 6, 2) := by decide +kernel
theorem d15 : decode yB 15 = .ok (.iload 6, 2) := by decide +kernel
theorem d17 : decode yB 17 = .ok (.sipush 255, 3) := by decide +kernel
theorem d20 : decode yB 20 = .ok (.if_icmp (.le) 6, 3) := by decide +kernel
theorem d26 : decode yB 26 = .ok (.aload_n 2, 1) := by decide +kernel
theorem d27 : decode yB 27 = .ok (.iload_n 3, 1) := by decide +kernel
theorem d28 : decode yB 28 = .ok (.iload 6, 2) := by decide +kernel
theorem d30 : decode yB 30 = .ok (.i2b, 1) := by decide +kernel
theorem d31 : decode yB 31 = .ok (.bastore, 1) := by decide +kernel
theorem d32 : decode yB 32 = .ok (.iinc 1 1, 3) := by decide +kernel
theorem d35 : decode yB 35 = .ok (.iinc 3 1, 3) := by decide +kernel
theorem d38 : decode yB 38 = .ok (.iinc 5 1, 3) := by decide +kernel
theorem d41 : decode yB 41 = .ok (.goto (-38), 3) := by decide +kernel
theorem d44 : decode yB 44 = .ok (.iload 4, 2) := by decide +kernel
theorem d46 : decode yB 46 = .ok (.ireturn, 1) := by decide +kernel
def site : List Cond := []
def tab : Cond := tabOf yN yB 7 (some .int) site
def P (b : Addr) (A : Cell) (d : Addr) (B : Cell) (o q len : Nat) (args : Array Value) (s : State) : Prop := args = #[.ref b, .int (Int32.ofNat o), .ref d, .int (Int32.ofNat q), .int (Int32.ofNat len)] ∧ Ch b A s ∧ Arr .byte d B s ∧ b ≠ d ∧ o + len ≤ A.slots.size ∧ q + len ≤ B.slots.size ∧ ∀ i, i < len → ¬ 255 < cv A (o + i)
def E (b : Addr) (A : Cell) (d : Addr) (B : Cell) (o q len : Nat) (r : Option Value) (s u : State) : Prop := r = some (.int (Int32.ofNat len)) ∧ ∃ B', Put d B' s u ∧ Laid B B' q (q + len) (fun j => Value.int (lo8 (cv A (o + (j - q)))))
/-- no char of the range above 255: len; the places written hold each char's low byte -/
theorem law (l : Launch) (b : Addr) (A : Cell) (d : Addr) (B : Cell) (o q len : Nat) : Law l yN 5 5 0 0 yB 7 (some .int) site (P b A d B o q len) (E b A d B o q len) (copyLocs d q len) 0 0 := by
  refine Law.of_walk (plainFor_of_name (by decide +kernel)) (by decide +kernel) (by decide +kernel) (by decide) (fun _ _ h => by rw [h.1]; rfl) (fun _ U U' hal hh h => ⟨h.1, h.2.1.mv hal hh, h.2.2.1.mv hal hh, h.2.2.2⟩) (fun r U U' V V' h1 hal h2 h => ⟨h.1, h.2.elim fun B' q => ⟨B', q.1.mv h1 h2, q.2⟩⟩) ?_
  intro p e s m args below meth c s₁ X0 hexec hbytes hml hret hlk hnm hown hh0 W hP
  obtain ⟨rfl, hA, hB, hne, l1, l2, hp⟩ := hP
  have c1 : Steps p.tables e below (s₁.setTop (entryFrame m #[.ref b, .int (Int32.ofNat o), .ref d, .int (Int32.ofNat q), .int (Int32.ofNat len)] 7)) (s₁.setTop (mkF m 0 #[.val (.ref b), .val (.int (Int32.ofNat o)), .val (.ref d), .val (.int (Int32.ofNat q)), .val (.int (Int32.ofNat len)), .unset, .unset] [])) := entry rfl
  have hA0 := hA.1.mv X0.warmed.alike hh0
  have hB0 := hB.mv X0.warmed.alike hh0
  have a31 := hA.1.2.2.2
  have c2 : Steps p.tables e below (s₁.setTop (entryFrame m #[.ref b, .int (Int32.ofNat o), .ref d, .int (Int32.ofNat q), .int (Int32.ofNat len)] 7)) (s₁.setTop (mkF m 3 #[.val (.ref b), .val (.int (Int32.ofNat o)), .val (.ref d), .val (.int (Int32.ofNat q)), .val (.int (Int32.ofNat len)), .val (.int 0), .unset] [])) := c1.trans (by
    refine iconstV X0.here hexec rfl 0 (hb hbytes d0) (by decide) ?_
    refine XS.istore X0.here hexec rfl (hb hbytes d1) rfl rfl ?_
    exact Steps.refl _)
  have loop : ∀ (r i : Nat), i + r = len → ∀ (z : Slot), (z = .unset ∨ ∃ w, z = .val w ∧ w.category = 1) → ∀ (Tl : State) (Bk : Cell), Stand p l e { frames := 0, locals := 0, cells := 0, slots := 0 } s m #[.ref b, .int (Int32.ofNat o), .ref d, .int (Int32.ofNat q), .int (Int32.ofNat len)] below meth c Tl ([] ++ copyLocs d q i) 0 0 → Put d Bk s₁ Tl → Laid B Bk q (q + i) (fun j => Value.int (lo8 (cv A (o + (j - q))))) →
      Steps p.tables e below (s₁.setTop (entryFrame m #[.ref b, .int (Int32.ofNat o), .ref d, .int (Int32.ofNat q), .int (Int32.ofNat len)] 7)) (Tl.setTop (mkF m 3 #[.val (.ref b), .val (.int (Int32.ofNat (o + i))), .val (.ref d), .val (.int (Int32.ofNat (q + i))), .val (.int (Int32.ofNat len)), .val (.int (Int32.ofNat i)), z] [])) → ∃ (T' : State) (B' : Cell) (z' : Slot), Stand p l e { frames := 0, locals := 0, cells := 0, slots := 0 } s m #[.ref b, .int (Int32.ofNat o), .ref d, .int (Int32.ofNat q), .int (Int32.ofNat len)] below meth c T' ([] ++ copyLocs d q len) 0 0 ∧ Put d B' s₁ T' ∧ Laid B B' q (q + len) (fun j => Value.int (lo8 (cv A (o + (j - q))))) ∧
      Steps p.tables e below (s₁.setTop (entryFrame m #[.ref b, .int (Int32.ofNat o), .ref d, .int (Int32.ofNat q), .int (Int32.ofNat len)] 7)) (T'.setTop (mkF m 3 #[.val (.ref b), .val (.int (Int32.ofNat (o + len))), .val (.ref d), .val (.int (Int32.ofNat (q + len))), .val (.int (Int32.ofNat len)), .val (.int (Int32.ofNat len)), z'] [])) := by
    intro r
    induction r with
    | zero =>
      intro i hi z hz Tl Bk Xl pl fl cl
      have hil : i = len := by omega
      rw [hil] at Xl fl cl
      exact ⟨Tl, Bk, z, Xl, pl, fl, cl⟩
    | succ r ih =>
      intro i hi z hz Tl Bk Xl pl fl cl
      have all := X0.warmed.alike.symm.trans Xl.warmed.alike
      have hAl := hA0.keep all (pl.other hne hA0.1)
      have hBk := hB0.like all pl.1 fl.1 fl.2.1 fl.2.2.1
      have hlt : q + i < Bk.slots.size := by rw [fl.2.2.1]; omega
      have c3 : Steps p.tables e below (s₁.setTop (entryFrame m #[.ref b, .int (Int32.ofNat o), .ref d, .int (Int32.ofNat q), .int (Int32.ofNat len)] 7)) (Tl.setTop (mkF m 12 #[.val (.ref b), .val (.int (Int32.ofNat (o + i))), .val (.ref d), .val (.int (Int32.ofNat (q + i))), .val (.int (Int32.ofNat len)), .val (.int (Int32.ofNat i)), z] [.int (Int32.ofNat (o + i)), .ref b])) := cl.trans (by
        refine XS.iload Xl.here hexec rfl (hb hbytes d3) rfl ?_
        refine XS.iload Xl.here hexec rfl (hb hbytes d5) rfl ?_
        refine XS.icmpNo Xl.here hexec rfl (hb hbytes d7) rfl (ii_ge_f (lt32 (by omega) (by omega))) ?_
        refine XS.aloadN Xl.here hexec rfl (hb hbytes d10) rfl rfl ?_
        refine XS.iloadN Xl.here hexec rfl (hb hbytes d11) rfl ?_
        exact Steps.refl _)
      have c4 : Steps p.tables e below (s₁.setTop (entryFrame m #[.ref b, .int (Int32.ofNat o), .ref d, .int (Int32.ofNat q), .int (Int32.ofNat len)] 7)) (Tl.setTop (mkF m 13 #[.val (.ref b), .val (.int (Int32.ofNat (o + i))), .val (.ref d), .val (.int (Int32.ofNat (q + i))), .val (.int (Int32.ofNat len)), .val (.int (Int32.ofNat i)), z] [.int (cv A (o + i))])) := c3.trans (by
        refine Xl.aget hexec hAl rfl (hA.get (i := o + i) (by omega)) rfl rfl (hb hbytes d12) ?_
        exact Steps.refl _)
      have c5 : Steps p.tables e below (s₁.setTop (entryFrame m #[.ref b, .int (Int32.ofNat o), .ref d, .int (Int32.ofNat q), .int (Int32.ofNat len)] 7)) (Tl.setTop (mkF m 15 #[.val (.ref b), .val (.int (Int32.ofNat (o + i))), .val (.ref d), .val (.int (Int32.ofNat (q + i))), .val (.int (Int32.ofNat len)), .val (.int (Int32.ofNat i)), .val (.int (cv A (o + i)))] [])) := c4.trans (by
        refine XS.istoreS Xl.here hexec rfl (hb hbytes d13) rfl rfl hz ?_
        exact Steps.refl _)
      have c6 : Steps p.tables e below (s₁.setTop (entryFrame m #[.ref b, .int (Int32.ofNat o), .ref d, .int (Int32.ofNat q), .int (Int32.ofNat len)] 7)) (Tl.setTop (mkF m 31 #[.val (.ref b), .val (.int (Int32.ofNat (o + i))), .val (.ref d), .val (.int (Int32.ofNat (q + i))), .val (.int (Int32.ofNat len)), .val (.int (Int32.ofNat i)), .val (.int (cv A (o + i)))] [.int (lo8 (cv A (o + i))), .int (Int32.ofNat (q + i)), .ref d])) := c5.trans (by
        refine XS.iload Xl.here hexec rfl (hb hbytes d15) rfl ?_
        refine sipushV Xl.here hexec rfl 255 (hb hbytes d17) (by decide) ?_
        refine XS.icmpYes Xl.here hexec rfl (pc0 := 20) rfl (hb hbytes d20) rfl (ii_le_t (hp i (by omega))) (by decide) rfl ?_
        refine XS.aloadN Xl.here hexec rfl (hb hbytes d26) rfl rfl ?_
        refine XS.iloadN Xl.here hexec rfl (hb hbytes d27) rfl ?_
        refine XS.iload Xl.here hexec rfl (hb hbytes d28) rfl ?_
        refine i2b Xl.here hexec rfl (hb hbytes d30) rfl ?_
        exact Steps.refl _)
      obtain ⟨T7, X7, p7, st7⟩ := Xl.aput hexec hBk rfl hlt rfl (fits_lo8 (cv A (o + i))) (g := (mkF m 31 #[.val (.ref b), .val (.int (Int32.ofNat (o + i))), .val (.ref d), .val (.int (Int32.ofNat (q + i))), .val (.int (Int32.ofNat len)), .val (.int (Int32.ofNat i)), .val (.int (cv A (o + i)))] [.int (lo8 (cv A (o + i))), .int (Int32.ofNat (q + i)), .ref d])) rfl (rest := []) rfl (hb hbytes d31)
      have c8 : Steps p.tables e below (s₁.setTop (entryFrame m #[.ref b, .int (Int32.ofNat o), .ref d, .int (Int32.ofNat q), .int (Int32.ofNat len)] 7)) (T7.setTop (mkF m 32 #[.val (.ref b), .val (.int (Int32.ofNat (o + i))), .val (.ref d), .val (.int (Int32.ofNat (q + i))), .val (.int (Int32.ofNat len)), .val (.int (Int32.ofNat i)), .val (.int (cv A (o + i)))] [])) := c6.trans (st7 _ (Steps.refl _))
      have c9 : Steps p.tables e below (s₁.setTop (entryFrame m #[.ref b, .int (Int32.ofNat o), .ref d, .int (Int32.ofNat q), .int (Int32.ofNat len)] 7)) (T7.setTop (mkF m 3 #[.val (.ref b), .val (.int (Int32.ofNat (o + i) + 1)), .val (.ref d), .val (.int (Int32.ofNat (q + i) + 1)), .val (.int (Int32.ofNat len)), .val (.int (Int32.ofNat i + 1)), .val (.int (cv A (o + i)))] [])) := c8.trans (by
        refine iincV X7.here hexec rfl 1 (hb hbytes d32) (by decide) rfl rfl ?_
        refine iincV X7.here hexec rfl 1 (hb hbytes d35) (by decide) rfl rfl ?_
        refine iincV X7.here hexec rfl 1 (hb hbytes d38) (by decide) rfl rfl ?_
        refine XS.goto X7.here hexec rfl (pc0 := 41) rfl (hb hbytes d41) (by decide) rfl ?_
        exact Steps.refl _)
      have c10 : Steps p.tables e below (s₁.setTop (entryFrame m #[.ref b, .int (Int32.ofNat o), .ref d, .int (Int32.ofNat q), .int (Int32.ofNat len)] 7)) (T7.setTop (mkF m 3 #[.val (.ref b), .val (.int (Int32.ofNat (o + (i + 1)))), .val (.ref d), .val (.int (Int32.ofNat (q + (i + 1)))), .val (.int (Int32.ofNat len)), .val (.int (Int32.ofNat (i + 1))), .val (.int (cv A (o + i)))] [])) := by
        have := c9
        rw [succ32, succ32, succ32] at this
        exact this
      exact ih (i + 1) (by omega) _ (Or.inr ⟨_, rfl, rfl⟩) T7 _ (by rw [copyLocs_step, ← List.append_assoc]; exact X7) (pl.trans p7) (fl.step (by omega) hlt (by simp)) c10
  obtain ⟨T9, B9, z9, X9, p9, f9, g9⟩ := loop len 0 (by omega) .unset (Or.inl rfl) s₁ B (by simpa [copyLocs] using X0) ⟨hB0.1, fun _ _ => rfl, rfl⟩ (Laid.zero _ _ _) c2
  have c11 : Steps p.tables e below (s₁.setTop (entryFrame m #[.ref b, .int (Int32.ofNat o), .ref d, .int (Int32.ofNat q), .int (Int32.ofNat len)] 7)) (T9.setTop (mkF m 46 #[.val (.ref b), .val (.int (Int32.ofNat (o + len))), .val (.ref d), .val (.int (Int32.ofNat (q + len))), .val (.int (Int32.ofNat len)), .val (.int (Int32.ofNat len)), z9] [.int (Int32.ofNat len)])) := g9.trans (by
    refine XS.iload X9.here hexec rfl (hb hbytes d3) rfl ?_
    refine XS.iload X9.here hexec rfl (hb hbytes d5) rfl ?_
    refine XS.icmpYes X9.here hexec rfl (pc0 := 7) rfl (hb hbytes d7) rfl (ii_ge_t (nlt32 (by omega) (Nat.le_refl _))) (by decide) rfl ?_
    refine XS.iload X9.here hexec rfl (hb hbytes d44) rfl ?_
    exact Steps.refl _)
  exact ⟨T9, some (.int (Int32.ofNat len)), _, _, _, X9, by simp, rfl, rfl, (fun h => by cases h), ⟨rfl, B9, p9.from hh0, f9⟩, fun fs hl => c11.trans (X9.ireturnOut hexec hret rfl (Or.inl rfl) (hb hbytes d46) hl)⟩
end Cmp5
namespace Cmp3
def yN : MethodName := ⟨"java/lang/StringUTF16", "compress", "([CII)[B"⟩
abbrev yB : ByteArray := jdk_52_method_16_code
theorem d0 : decode yB 0 = .ok (.iload_n 2, 1) := by decide +kernel
theorem d1 : decode yB 1 = .ok (.newarray .byte, 2) := by decide +kernel
theorem d3 : decode yB 3 = .ok (.astore_n 3, 1) := by decide +kernel
theorem d4 : decode yB 4 = .ok (.aload_n 0, 1) := by decide +kernel
theorem d5 : decode yB 5 = .ok (.iload_n 1, 1) := by decide +kernel
theorem d6 : decode yB 6 = .ok (.aload_n 3, 1) := by decide +kernel
theorem d7 : decode yB 7 = .ok (.iconst 0, 1) := by decide +kernel
theorem d8 : decode yB 8 = .ok (.iload_n 2, 1) := by decide +kernel
theorem d9 : decode yB 9 = .ok (.invokestatic 115, 3) := by decide +kernel
theorem d12 : decode yB 12 = .ok (.istore 4, 2) := by decide +kernel
theorem d14 : decode yB 14 = .ok (.iload 4, 2) := by decide +kernel
theorem d16 : decode yB 16 = .ok (.iload_n 2, 1) := by decide +kernel
theorem d17 : decode yB 17 = .ok (.if_icmp (.eq) 40, 3) := by decide +kernel
theorem d57 : decode yB 57 = .ok (.aload_n 3, 1) := by decide +kernel
theorem d58 : decode yB 58 = .ok (.areturn, 1) := by decide +kernel
def site : List Cond := [.arrayClass .byte, Cmp5.tab] ++ staticW U16 115 Cmp5.yN
def tab : Cond := tabOf yN yB 6 (some (.array .byte)) site
def P (b : Addr) (A : Cell) (o len : Nat) (args : Array Value) (s : State) : Prop := args = #[.ref b, .int (Int32.ofNat o), .int (Int32.ofNat len)] ∧ Ch b A s ∧ o + len ≤ A.slots.size ∧ len ≤ 536870912 ∧ ∀ i, i < len → ¬ 255 < cv A (o + i)
def E (b : Addr) (A : Cell) (o len : Nat) (r : Option Value) (s u : State) : Prop := NewArr .byte "[B" len (fun j => .int (lo8 (cv A (o + j)))) r s u ∧ u.heap.size = s.heap.size + 1
/-- no char of the range above 255: a new byte[] of their low bytes -/
theorem law (l : Launch) (b : Addr) (A : Cell) (o len : Nat) : Law l yN 3 3 1 18 yB 6 (some (.array .byte)) site (P b A o len) (E b A o len) [] 1 len := by
  refine Law.of_walk (plainFor_of_name (by decide +kernel)) (by decide +kernel) (by decide +kernel) (by decide) (fun _ _ h => by rw [h.1]; rfl) (fun _ U U' hal hh h => ⟨h.1, h.2.1.mv hal hh, h.2.2⟩) (fun r U U' V V' h1 hal h2 h => ⟨NewArr.mv r U U' V V' h1 hal h2 h.1, by rw [h1, h2]; exact h.2⟩) ?_
  intro p e s m args below meth c s₁ X0 hexec hbytes hml hret hlk hnm hown hh0 W hP
  obtain ⟨rfl, hA, l1, l2, hp⟩ := hP
  have a31 := hA.1.2.2.2
  have c1 : Steps p.tables e below (s₁.setTop (entryFrame m #[.ref b, .int (Int32.ofNat o), .int (Int32.ofNat len)] 6)) (s₁.setTop (mkF m 0 #[.val (.ref b), .val (.int (Int32.ofNat o)), .val (.int (Int32.ofNat len)), .unset, .unset, .unset] [])) := entry rfl
  have c2 : Steps p.tables e below (s₁.setTop (entryFrame m #[.ref b, .int (Int32.ofNat o), .int (Int32.ofNat len)] 6)) (s₁.setTop (mkF m 1 #[.val (.ref b), .val (.int (Int32.ofNat o)), .val (.int (Int32.ofNat len)), .unset, .unset, .unset] [.int (Int32.ofNat len)])) := c1.trans (by
    refine XS.iloadN X0.here hexec rfl (hb hbytes d0) rfl ?_
    exact Steps.refl _)
  obtain ⟨T3, B3, X3, ba3, bs3, bv3, bh3, bf3, st3⟩ := X0.anew hexec (atype := .byte) (wk W (.arrayClass .byte)) rfl (by show len * 1 ≤ _; omega) (by omega) (g := (mkF m 1 #[.val (.ref b), .val (.int (Int32.ofNat o)), .val (.int (Int32.ofNat len)), .unset, .unset, .unset] [.int (Int32.ofNat len)])) rfl (hb hbytes d1) (rest := []) rfl (Nat.le_refl _) (by show 0 + len ≤ len; omega)
  rw [hh0] at ba3 st3
  have kp3 : XT.Kept s T3 := (XT.Kept.of_eq hh0).push bh3
  have hA3 := hA.keep X3.warmed.alike (kp3 _ _ hA.1.1)
  have hne : b ≠ s.heap.size := hA.1.ne
  have c4 : Steps p.tables e below (s₁.setTop (entryFrame m #[.ref b, .int (Int32.ofNat o), .int (Int32.ofNat len)] 6)) (T3.setTop (mkF m 3 #[.val (.ref b), .val (.int (Int32.ofNat o)), .val (.int (Int32.ofNat len)), .unset, .unset, .unset] [.ref s.heap.size])) := c2.trans (st3 _ (Steps.refl _))
  have c5 : Steps p.tables e below (s₁.setTop (entryFrame m #[.ref b, .int (Int32.ofNat o), .int (Int32.ofNat len)] 6)) (T3.setTop (mkF m 9 #[.val (.ref b), .val (.int (Int32.ofNat o)), .val (.int (Int32.ofNat len)), .val (.ref s.heap.size), .unset, .unset] [.int (Int32.ofNat len), .int 0, .ref s.heap.size, .int (Int32.ofNat o), .ref b])) := c4.trans (by
    refine XS.astoreN X3.here hexec rfl (hb hbytes d3) rfl rfl rfl ?_
    refine XS.aloadN X3.here hexec rfl (hb hbytes d4) rfl rfl ?_
    refine XS.iloadN X3.here hexec rfl (hb hbytes d5) rfl ?_
    refine XS.aloadN X3.here hexec rfl (hb hbytes d6) rfl rfl ?_
    refine iconstV X3.here hexec rfl 0 (hb hbytes d7) (by decide) ?_
    refine XS.iloadN X3.here hexec rfl (hb hbytes d8) rfl ?_
    exact Steps.refl _)
  obtain ⟨v6, T6, X6, E6, g6⟩ := X3.callS hexec (Cmp5.law l b A s.heap.size B3 o 0 len) hown (wks W (staticW U16 115 Cmp5.yN)) (wk W Cmp5.tab) (W := 0) (Nat.le_of_ble_eq_true rfl) (Nat.le_of_ble_eq_true rfl) (Nat.le_refl _) (by show 0 + len + 0 ≤ len; omega) (g := (mkF m 9 #[.val (.ref b), .val (.int (Int32.ofNat o)), .val (.int (Int32.ofNat len)), .val (.ref s.heap.size), .unset, .unset] [.int (Int32.ofNat len), .int (Int32.ofNat 0), .ref s.heap.size, .int (Int32.ofNat o), .ref b])) rfl (by rw [hml]; rfl) c5 (argsL := [.ref b, .int (Int32.ofNat o), .ref s.heap.size, .int (Int32.ofNat 0), .int (Int32.ofNat len)]) (rest := []) rfl rfl (by show 2 * 0 + 0 ≤ _; decide) (hb hbytes d9) (⟨rfl, hA3, ba3, hne, l1, by rw [bs3]; simp, hp⟩)
  obtain ⟨rfl, B6, p6, f6⟩ := E6
  have c7 : Steps p.tables e below (s₁.setTop (entryFrame m #[.ref b, .int (Int32.ofNat o), .int (Int32.ofNat len)] 6)) (T6.setTop (mkF m 12 #[.val (.ref b), .val (.int (Int32.ofNat o)), .val (.int (Int32.ofNat len)), .val (.ref s.heap.size), .unset, .unset] [.int (Int32.ofNat len)])) := g6
  have c8 : Steps p.tables e below (s₁.setTop (entryFrame m #[.ref b, .int (Int32.ofNat o), .int (Int32.ofNat len)] 6)) (T6.setTop (mkF m 58 #[.val (.ref b), .val (.int (Int32.ofNat o)), .val (.int (Int32.ofNat len)), .val (.ref s.heap.size), .val (.int (Int32.ofNat len)), .unset] [.ref s.heap.size])) := c7.trans (by
    refine XS.istore X6.here hexec rfl (hb hbytes d12) rfl rfl ?_
    refine XS.iload X6.here hexec rfl (hb hbytes d14) rfl ?_
    refine XS.iloadN X6.here hexec rfl (hb hbytes d16) rfl ?_
    refine XS.icmpYes X6.here hexec rfl (pc0 := 17) rfl (hb hbytes d17) rfl (ii_eq_t rfl) (by decide) rfl ?_
    refine XS.aloadN X6.here hexec rfl (hb hbytes d57) rfl rfl ?_
    exact Steps.refl _)
  have X8 := X6.wide (L' := []) (cells' := 1) (slots' := len) (fun x hx hlt => by
    simp only [List.nil_append, copyLocs, List.mem_map, List.mem_range] at hx
    obtain ⟨i, -, rfl⟩ := hx
    exact absurd hlt (Nat.lt_irrefl _)) (Nat.le_refl _) (by omega)
  exact ⟨T6, some (.ref s.heap.size), _, _, _, X8, rfl, rfl, rfl, (fun h => by cases h), ⟨⟨rfl, B6, ba3.like (X3.warmed.alike.symm.trans X6.warmed.alike) p6.1 f6.1 f6.2.1 f6.2.2.1, f6.2.1.trans bv3, by rw [X6.warmed.alike.findClass, f6.1]; exact bf3, by rw [f6.2.2.1, bs3]; simp, fun j hj => by rw [f6.2.2.2 j, if_pos (by omega)]; rfl, kp3.put p6 (Nat.le_refl _)⟩, by rw [p6.2.2, bh3, hh0]; simp⟩, fun fs hl => c8.trans (X8.areturnOut hexec rfl hret rfl (hb hbytes d58) hl)⟩
end Cmp3
namespace CodL
def yN : MethodName := ⟨"java/lang/StringUTF16", "coderFromArrayLen", "([BI)B"⟩
abbrev yB : ByteArray := jdk_52_method_15_code
theorem d0 : decode yB 0 = .ok (.iload_n 1, 1) := by decide +kernel
theorem d1 : decode yB 1 = .ok (.aload_n 0, 1) := by decide +kernel
theorem d2 : decode yB 2 = .ok (.arraylength, 1) := by decide +kernel
theorem d3 : decode yB 3 = .ok (.isub, 1) := by decide +kernel
theorem d4 : decode yB 4 = .ok (.bipush 31, 2) := by decide +kernel
theorem d6 : decode yB 6 = .ok (.iushr, 1) := by decide +kernel
theorem d7 : decode yB 7 = .ok (.i2b, 1) := by decide +kernel
theorem d8 : decode yB 8 = .ok (.ireturn, 1) := by decide +kernel
def site : List Cond := []
def tab : Cond := tabOf yN yB 2 (some .byte) site
def P (d : Addr) (B : Cell) (args : Array Value) (s : State) : Prop := args = #[.ref d, .int (Int32.ofNat B.slots.size)] ∧ Arr .byte d B s
def E (r : Option Value) (s u : State) : Prop := XT.PureE (some (.int 0)) r s u
/-- an array as long as the number of chars: LATIN1 -/
theorem law (l : Launch) (d : Addr) (B : Cell) : Law l yN 2 2 0 0 yB 2 (some .byte) site (P d B) E [] 0 0 := by
  refine Law.of_walk (plainFor_of_name (by decide +kernel)) (by decide +kernel) (by decide +kernel) (by decide) (fun _ _ h => by rw [h.1]; rfl) (fun _ U U' hal hh h => ⟨h.1, h.2.mv hal hh⟩) (fun r U U' V V' h1 hal h2 h => XT.PureE.mv r U U' V V' h1 hal h2 h) ?_
  intro p e s m args below meth c s₁ X0 hexec hbytes hml hret hlk hnm hown hh0 W hP
  obtain ⟨rfl, hB⟩ := hP
  have hB0 := hB.mv X0.warmed.alike hh0
  have c1 : Steps p.tables e below (s₁.setTop (entryFrame m #[.ref d, .int (Int32.ofNat B.slots.size)] 2)) (s₁.setTop (mkF m 0 #[.val (.ref d), .val (.int (Int32.ofNat B.slots.size))] [])) := entry rfl
  have c2 : Steps p.tables e below (s₁.setTop (entryFrame m #[.ref d, .int (Int32.ofNat B.slots.size)] 2)) (s₁.setTop (mkF m 2 #[.val (.ref d), .val (.int (Int32.ofNat B.slots.size))] [.ref d, .int (Int32.ofNat B.slots.size)])) := c1.trans (by
    refine XS.iloadN X0.here hexec rfl (hb hbytes d0) rfl ?_
    refine XS.aloadN X0.here hexec rfl (hb hbytes d1) rfl rfl ?_
    exact Steps.refl _)
  have c3 : Steps p.tables e below (s₁.setTop (entryFrame m #[.ref d, .int (Int32.ofNat B.slots.size)] 2)) (s₁.setTop (mkF m 8 #[.val (.ref d), .val (.int (Int32.ofNat B.slots.size))] [.int (lo8 (ushr (Int32.ofNat B.slots.size - Int32.ofNat B.slots.size) 31))])) := c2.trans (by
    refine X0.alen hexec hB0 rfl rfl (hb hbytes d2) ?_
    refine XS.isub X0.here hexec rfl (hb hbytes d3) rfl ?_
    refine bipushV X0.here hexec rfl 31 (hb hbytes d4) (by decide) ?_
    refine iushr X0.here hexec rfl (hb hbytes d6) rfl ?_
    refine i2b X0.here hexec rfl (hb hbytes d7) rfl ?_
    exact Steps.refl _)
  have e0 : lo8 (ushr (Int32.ofNat B.slots.size - Int32.ofNat B.slots.size) 31) = 0 := by rw [Int32.sub_self]; decide
  rw [e0] at c3
  exact ⟨s₁, some (.int 0), _, _, _, X0, rfl, rfl, rfl, (fun h => by cases h), ⟨rfl, hh0⟩, fun fs hl => c3.trans (X0.ireturnOut hexec hret rfl (Or.inr (Or.inr (Or.inl rfl))) (hb hbytes d8) hl)⟩
end CodL
/-- the String at a is Latin-1 over a new byte[] (the heap's one new cell): the low bytes of the len chars of A from o on; every cell but a is kept -/
def Got (a : Addr) (D : Cell) (fV fC : Field) (A : Cell) (o len : Nat) (r : Option Value) (s u : State) : Prop := r = none ∧ ∃ D' V : Cell, Blank "java/lang/String" a D' u ∧ Same D D' [fV.slot, fC.slot] ∧ D'.slots[fV.slot]? = some (.ref s.heap.size) ∧ D'.slots[fC.slot]? = some (.int 0) ∧ Arr .byte s.heap.size V u ∧ V.vm = .none ∧ u.vm.findClass "[B" = some V.cls ∧ V.slots.size = len ∧ (∀ j, j < len → V.slots[j]? = some (.int (lo8 (cv A (o + j))))) ∧ (∀ (y : Addr) (c : Cell), y ≠ a → s.heap[y]? = some c → u.heap[y]? = some c) ∧ u.heap.size = s.heap.size + 1
theorem Got.mv {a : Addr} {D A : Cell} {fV fC : Field} {o len : Nat} : ∀ r (U U' V V' : State), U'.heap = U.heap → V.vm.Alike V'.vm → V'.heap = V.heap → Got a D fV fC A o len r U V → Got a D fV fC A o len r U' V' :=
  fun r U U' V V' h1 hal h2 ⟨e0, D', X, a1, a2, a3, a4, a5, a6, a7, a8, a9, a10, a11⟩ => ⟨e0, D', X, a1.mv hal h2, a2, by rw [h1]; exact a3, a4, by rw [h1]; exact a5.mv hal h2, a6, by rw [hal.findClass]; exact a7, a8, a9, by rw [h1, h2]; exact a10, by rw [h1, h2]; exact a11⟩
namespace New4
def yN : MethodName := ⟨"java/lang/String", "<init>", "([CIILjava/lang/Void;)V"⟩
abbrev yB : ByteArray := jdk_42_method_149_code
theorem d0 : decode yB 0 = .ok (.aload_n 0, 1) := by decide +kernel
theorem d1 : decode yB 1 = .ok (.invokespecial 1, 3) := by decide +kernel
theorem d4 : decode yB 4 = .ok (.iload_n 3, 1) := by decide +kernel
theorem d5 : decode yB 5 = .ok (.ifCond (.ne) 22, 3) := by decide +kernel
theorem d27 : decode yB 27 = .ok (.getstatic 38, 3) := by decide +kernel
theorem d30 : decode yB 30 = .ok (.ifCond (.eq) 28, 3) := by decide +kernel
theorem d33 : decode yB 33 = .ok (.aload_n 1, 1) := by decide +kernel
theorem d34 : decode yB 34 = .ok (.iload_n 2, 1) := by decide +kernel
theorem d35 : decode yB 35 = .ok (.iload_n 3, 1) := by decide +kernel
theorem d36 : decode yB 36 = .ok (.invokestatic 177, 3) := by decide +kernel
theorem d39 : decode yB 39 = .ok (.astore 5, 2) := by decide +kernel
theorem d41 : decode yB 41 = .ok (.aload_n 0, 1) := by decide +kernel
theorem d42 : decode yB 42 = .ok (.aload 5, 2) := by decide +kernel
theorem d44 : decode yB 44 = .ok (.iload_n 3, 1) := by decide +kernel
theorem d45 : decode yB 45 = .ok (.invokestatic 47, 3) := by decide +kernel
theorem d48 : decode yB 48 = .ok (.putfield 15, 3) := by decide +kernel
theorem d51 : decode yB 51 = .ok (.aload_n 0, 1) := by decide +kernel
theorem d52 : decode yB 52 = .ok (.aload 5, 2) := by decide +kernel
theorem d54 : decode yB 54 = .ok (.putfield 9, 3) := by decide +kernel
theorem d57 : decode yB 57 = .ok (.return_, 1) := by decide +kernel
def site : List Cond := [.fieldLink "java/lang/String" 38 "java/lang/String" "COMPACT_STRINGS" "Z", Cmp3.tab, CodL.tab, .laysFinal "java/lang/String" "java/lang/String" "value" "[B", .fieldLink "java/lang/String" 9 "java/lang/String" "value" "[B", .laysFinal "java/lang/String" "java/lang/String" "coder" "B", .fieldLink "java/lang/String" 15 "java/lang/String" "coder" "B"] ++ objW "java/lang/String" 1 ++ staticW "java/lang/String" 177 Cmp3.yN ++ staticW "java/lang/String" 47 CodL.yN
def tab : Cond := tabOf yN yB 6 none site
def P (a : Addr) (D : Cell) (fV fC : Field) (b : Addr) (A : Cell) (z : Int32) (o len : Nat) (args : Array Value) (s : State) : Prop := args = #[.ref a, .ref b, .int (Int32.ofNat o), .int (Int32.ofNat len), .null] ∧ Blank "java/lang/String" a D s ∧ Found "java/lang/String" "value" "[B" fV s ∧ Found "java/lang/String" "coder" "B" fC s ∧ Ch b A s ∧ StaticIs s "java/lang/String" "COMPACT_STRINGS" "Z" (.int z) ∧ ¬ z = 0 ∧ 0 < len ∧ o + len ≤ A.slots.size ∧ len ≤ 536870912 ∧ ∀ i, i < len → ¬ 255 < cv A (o + i)
def E (a : Addr) (D : Cell) (fV fC : Field) (A : Cell) (o len : Nat) (r : Option Value) (s u : State) : Prop := Got a D fV fC A o len r s u
/-- len > 0, no char of the range above 255: a Latin-1 String of their low bytes -/
theorem law (l : Launch) (a : Addr) (D : Cell) (fV fC : Field) (b : Addr) (A : Cell) (z : Int32) (o len : Nat) : Law l yN 5 4 2 35 yB 6 none site (P a D fV fC b A z o len) (E a D fV fC A o len) [⟨a, fC.slot⟩, ⟨a, fV.slot⟩] 1 len := by
  refine Law.of_walk (plainFor_of_name (by decide +kernel)) (by decide +kernel) (by decide +kernel) (by decide) (fun _ _ h => by rw [h.1]; rfl) (fun _ U U' hal hh h => ⟨h.1, h.2.1.mv hal hh, h.2.2.1.al hal, h.2.2.2.1.al hal, h.2.2.2.2.1.mv hal hh, h.2.2.2.2.2.1.there hal hh, h.2.2.2.2.2.2⟩) (fun r U U' V V' h1 hal h2 h => Got.mv r U U' V V' h1 hal h2 h) ?_
  intro p e s m args below meth c s₁ X0 hexec hbytes hml hret hlk hnm hown hh0 W hP
  obtain ⟨rfl, hB, f1, f2, hA, s1, hz, l0, l1, l2, hp⟩ := hP
  have a31 := hA.1.2.2.2
  have c1 : Steps p.tables e below (s₁.setTop (entryFrame m #[.ref a, .ref b, .int (Int32.ofNat o), .int (Int32.ofNat len), .null] 6)) (s₁.setTop (mkF m 0 #[.val (.ref a), .val (.ref b), .val (.int (Int32.ofNat o)), .val (.int (Int32.ofNat len)), .val .null, .unset] [])) := entry rfl
  have c2 : Steps p.tables e below (s₁.setTop (entryFrame m #[.ref a, .ref b, .int (Int32.ofNat o), .int (Int32.ofNat len), .null] 6)) (s₁.setTop (mkF m 1 #[.val (.ref a), .val (.ref b), .val (.int (Int32.ofNat o)), .val (.int (Int32.ofNat len)), .val .null, .unset] [.ref a])) := c1.trans (by
    refine XS.aloadN X0.here hexec rfl (hb hbytes d0) rfl rfl ?_
    exact Steps.refl _)
  obtain ⟨T3, X3, q3, st3⟩ := X0.oinit hexec hown (wks W (objW "java/lang/String" 1)) (g := (mkF m 1 #[.val (.ref a), .val (.ref b), .val (.int (Int32.ofNat o)), .val (.int (Int32.ofNat len)), .val .null, .unset] [.ref a])) rfl (by rw [hml]; rfl) (rest := []) rfl (hb hbytes d1) (W := 0) (by show 2 * 0 + 0 ≤ _; decide) (Nat.le_of_ble_eq_true rfl) (Nat.le_of_ble_eq_true rfl)
  have hh3 := q3.trans hh0
  have c4 : Steps p.tables e below (s₁.setTop (entryFrame m #[.ref a, .ref b, .int (Int32.ofNat o), .int (Int32.ofNat len), .null] 6)) (T3.setTop (mkF m 27 #[.val (.ref a), .val (.ref b), .val (.int (Int32.ofNat o)), .val (.int (Int32.ofNat len)), .val .null, .unset] [])) := (c2.trans (st3 _ (Steps.refl _))).trans (by
    refine XS.iloadN X3.here hexec rfl (hb hbytes d4) rfl ?_
    refine XS.ifYes X3.here hexec rfl (pc0 := 5) rfl (hb hbytes d5) rfl (i0_ne_t (nz32 (by omega) l0)) (by decide) rfl ?_
    exact Steps.refl _)
  obtain ⟨T5, X5, q5, st5⟩ := X3.sget hexec hown (wk W (.fieldLink "java/lang/String" 38 "java/lang/String" "COMPACT_STRINGS" "Z")) s1 (fun _ _ h => by rw [hh3]; exact h) (g := (mkF m 27 #[.val (.ref a), .val (.ref b), .val (.int (Int32.ofNat o)), .val (.int (Int32.ofNat len)), .val .null, .unset] [])) rfl (hb hbytes d27)
  have hh5 := q5.trans hh3
  have c6 : Steps p.tables e below (s₁.setTop (entryFrame m #[.ref a, .ref b, .int (Int32.ofNat o), .int (Int32.ofNat len), .null] 6)) (T5.setTop (mkF m 30 #[.val (.ref a), .val (.ref b), .val (.int (Int32.ofNat o)), .val (.int (Int32.ofNat len)), .val .null, .unset] [.int z])) := c4.trans (st5 _ (Steps.refl _))
  have c7 : Steps p.tables e below (s₁.setTop (entryFrame m #[.ref a, .ref b, .int (Int32.ofNat o), .int (Int32.ofNat len), .null] 6)) (T5.setTop (mkF m 36 #[.val (.ref a), .val (.ref b), .val (.int (Int32.ofNat o)), .val (.int (Int32.ofNat len)), .val .null, .unset] [.int (Int32.ofNat len), .int (Int32.ofNat o), .ref b])) := c6.trans (by
    refine XS.ifNo X5.here hexec rfl (hb hbytes d30) rfl (i0_eq_f hz) ?_
    refine XS.aloadN X5.here hexec rfl (hb hbytes d33) rfl rfl ?_
    refine XS.iloadN X5.here hexec rfl (hb hbytes d34) rfl ?_
    refine XS.iloadN X5.here hexec rfl (hb hbytes d35) rfl ?_
    exact Steps.refl _)
  obtain ⟨v8, T8, X8, E8, g8⟩ := X5.callS hexec (Cmp3.law l b A o len) hown (wks W (staticW "java/lang/String" 177 Cmp3.yN)) (wk W Cmp3.tab) (W := 0) (Nat.le_of_ble_eq_true rfl) (Nat.le_of_ble_eq_true rfl) (Nat.le_refl _) (by show 0 + len ≤ len; omega) (g := (mkF m 36 #[.val (.ref a), .val (.ref b), .val (.int (Int32.ofNat o)), .val (.int (Int32.ofNat len)), .val .null, .unset] [.int (Int32.ofNat len), .int (Int32.ofNat o), .ref b])) rfl (by rw [hml]; rfl) c7 (argsL := [.ref b, .int (Int32.ofNat o), .int (Int32.ofNat len)]) (rest := []) rfl rfl (by show 2 * 0 + 0 ≤ _; decide) (hb hbytes d36) (⟨rfl, hA.mv X5.warmed.alike hh5, l1, l2, hp⟩)
  obtain ⟨e8, z8⟩ := E8
  obtain ⟨rfl, N, n1, n2, n3, n4, n5, n6⟩ := NewArr.mv _ T5 s _ _ hh5.symm (Vm.Alike.refl _) rfl e8
  rw [hh5] at z8
  have hB1 := hB.keep X8.warmed.alike (n6 _ _ hB.1)
  have hne : s.heap.size ≠ a := (Nat.ne_of_lt (Array.getElem?_eq_some_iff.mp hB.1).1).symm
  have c9 : Steps p.tables e below (s₁.setTop (entryFrame m #[.ref a, .ref b, .int (Int32.ofNat o), .int (Int32.ofNat len), .null] 6)) (T8.setTop (mkF m 39 #[.val (.ref a), .val (.ref b), .val (.int (Int32.ofNat o)), .val (.int (Int32.ofNat len)), .val .null, .unset] [.ref s.heap.size])) := g8
  have c10 : Steps p.tables e below (s₁.setTop (entryFrame m #[.ref a, .ref b, .int (Int32.ofNat o), .int (Int32.ofNat len), .null] 6)) (T8.setTop (mkF m 45 #[.val (.ref a), .val (.ref b), .val (.int (Int32.ofNat o)), .val (.int (Int32.ofNat len)), .val .null, .val (.ref s.heap.size)] [.int (Int32.ofNat N.slots.size), .ref s.heap.size, .ref a])) := by
    have hc : Steps p.tables e below (s₁.setTop (entryFrame m #[.ref a, .ref b, .int (Int32.ofNat o), .int (Int32.ofNat len), .null] 6)) (T8.setTop (mkF m 45 #[.val (.ref a), .val (.ref b), .val (.int (Int32.ofNat o)), .val (.int (Int32.ofNat len)), .val .null, .val (.ref s.heap.size)] [.int (Int32.ofNat len), .ref s.heap.size, .ref a])) := c9.trans (by
      refine XS.astore X8.here hexec rfl (hb hbytes d39) rfl rfl rfl ?_
      refine XS.aloadN X8.here hexec rfl (hb hbytes d41) rfl rfl ?_
      refine XS.aload X8.here hexec rfl (hb hbytes d42) rfl rfl ?_
      refine XS.iloadN X8.here hexec rfl (hb hbytes d44) rfl ?_
      exact Steps.refl _)
    rw [n4]; exact hc
  obtain ⟨v11, T11, X11, E11, g11⟩ := X8.callS hexec (CodL.law l s.heap.size N) hown (wks W (staticW "java/lang/String" 47 CodL.yN)) (wk W CodL.tab) (W := 1) (Nat.le_of_ble_eq_true rfl) (Nat.le_of_ble_eq_true rfl) (Nat.le_refl _) (by show 0 + len + 0 ≤ len; omega) (g := (mkF m 45 #[.val (.ref a), .val (.ref b), .val (.int (Int32.ofNat o)), .val (.int (Int32.ofNat len)), .val .null, .val (.ref s.heap.size)] [.int (Int32.ofNat N.slots.size), .ref s.heap.size, .ref a])) rfl (by rw [hml]; rfl) c10 (argsL := [.ref s.heap.size, .int (Int32.ofNat N.slots.size)]) (rest := [.ref a]) rfl rfl (by show 2 * 0 + (1 + 0) ≤ _; decide) (hb hbytes d45) (⟨rfl, n1⟩)
  obtain ⟨rfl, q11⟩ := E11
  have hB11 := hB1.mv (X8.warmed.alike.symm.trans X11.warmed.alike) q11
  have c12 : Steps p.tables e below (s₁.setTop (entryFrame m #[.ref a, .ref b, .int (Int32.ofNat o), .int (Int32.ofNat len), .null] 6)) (T11.setTop (mkF m 48 #[.val (.ref a), .val (.ref b), .val (.int (Int32.ofNat o)), .val (.int (Int32.ofNat len)), .val .null, .val (.ref s.heap.size)] [.int 0, .ref a])) := g11
  obtain ⟨T13, X13, p13, bl13, sl13, st13⟩ := X11.finit hexec hown (wk W (.fieldLink "java/lang/String" 15 "java/lang/String" "coder" "B")) (Or.inr ⟨_, (wk W (.laysFinal "java/lang/String" "java/lang/String" "coder" "B"))⟩) (Or.inl ⟨rfl, hnm⟩) f2 (Or.inl rfl) hB11 (t := .byte) (by decide +kernel) rfl (g := (mkF m 48 #[.val (.ref a), .val (.ref b), .val (.int (Int32.ofNat o)), .val (.int (Int32.ofNat len)), .val .null, .val (.ref s.heap.size)] [.int 0, .ref a])) rfl (rest := []) rfl (hb hbytes d48)
  have c14 : Steps p.tables e below (s₁.setTop (entryFrame m #[.ref a, .ref b, .int (Int32.ofNat o), .int (Int32.ofNat len), .null] 6)) (T13.setTop (mkF m 54 #[.val (.ref a), .val (.ref b), .val (.int (Int32.ofNat o)), .val (.int (Int32.ofNat len)), .val .null, .val (.ref s.heap.size)] [.ref s.heap.size, .ref a])) := (c12.trans (st13 _ (Steps.refl _))).trans (by
    refine XS.aloadN X13.here hexec rfl (hb hbytes d51) rfl rfl ?_
    refine XS.aload X13.here hexec rfl (hb hbytes d52) rfl rfl ?_
    exact Steps.refl _)
  obtain ⟨T15, X15, p15, bl15, sl15, st15⟩ := X13.finit hexec hown (wk W (.fieldLink "java/lang/String" 9 "java/lang/String" "value" "[B")) (Or.inr ⟨_, (wk W (.laysFinal "java/lang/String" "java/lang/String" "value" "[B"))⟩) (Or.inl ⟨rfl, hnm⟩) f1 (Or.inl rfl) bl13 (t := (.array .byte)) (by decide +kernel) rfl (g := (mkF m 54 #[.val (.ref a), .val (.ref b), .val (.int (Int32.ofNat o)), .val (.int (Int32.ofNat len)), .val .null, .val (.ref s.heap.size)] [.ref s.heap.size, .ref a])) rfl (rest := []) rfl (hb hbytes d54)
  have c16 : Steps p.tables e below (s₁.setTop (entryFrame m #[.ref a, .ref b, .int (Int32.ofNat o), .int (Int32.ofNat len), .null] 6)) (T15.setTop (mkF m 57 #[.val (.ref a), .val (.ref b), .val (.int (Int32.ofNat o)), .val (.int (Int32.ofNat len)), .val .null, .val (.ref s.heap.size)] [])) := c14.trans (st15 _ (Steps.refl _))
  have ap := apart (Or.inr ⟨_, (wk W (.laysFinal "java/lang/String" "java/lang/String" "value" "[B"))⟩) (Or.inr ⟨_, (wk W (.laysFinal "java/lang/String" "java/lang/String" "coder" "B"))⟩) f1 f2 (t₁ := .array .byte) (t₂ := .byte) (by decide +kernel) (by decide +kernel) (by decide)
  have al := X8.warmed.alike.symm.trans X15.warmed.alike
  have n7 : T11.heap[s.heap.size]? = some N := by rw [q11]; exact n1.1
  exact ⟨T15, none, _, _, _, X15, by simp, rfl, by omega, (fun _ => rfl), ⟨rfl, _, N, bl15, ((Same.refl D _).set _ (by simp)).set _ (by simp), sl15, (Cell.slots_setSlot_ne _ ap).trans sl13, n1.keep al (p15.other hne (p13.other hne n7)), n2, by rw [al.findClass]; exact n3, n4, n5, fun y c h1 h2 => p15.other h1 (p13.other h1 (by rw [q11]; exact n6 y c h2)), by rw [p15.2.2, p13.2.2, q11]; exact z8⟩, fun fs hl => c16.trans (X15.returnOut hexec hret (hb hbytes d57) hl)⟩
end New4
namespace New1
def yN : MethodName := ⟨"java/lang/String", "<init>", "([C)V"⟩
abbrev yB : ByteArray := jdk_42_method_3_code
theorem d0 : decode yB 0 = .ok (.aload_n 0, 1) := by decide +kernel
theorem d1 : decode yB 1 = .ok (.aload_n 1, 1) := by decide +kernel
theorem d2 : decode yB 2 = .ok (.iconst 0, 1) := by decide +kernel
theorem d3 : decode yB 3 = .ok (.aload_n 1, 1) := by decide +kernel
theorem d4 : decode yB 4 = .ok (.arraylength, 1) := by decide +kernel
theorem d5 : decode yB 5 = .ok (.aconst_null, 1) := by decide +kernel
theorem d6 : decode yB 6 = .ok (.invokespecial 27, 3) := by decide +kernel
theorem d9 : decode yB 9 = .ok (.return_, 1) := by decide +kernel
def site : List Cond := [New4.tab] ++ initW "java/lang/String" 27 New4.yN
def tab : Cond := tabOf yN yB 2 none site
def P (a : Addr) (D : Cell) (fV fC : Field) (b : Addr) (A : Cell) (z : Int32) (args : Array Value) (s : State) : Prop := args = #[.ref a, .ref b] ∧ Blank "java/lang/String" a D s ∧ Found "java/lang/String" "value" "[B" fV s ∧ Found "java/lang/String" "coder" "B" fC s ∧ Ch b A s ∧ StaticIs s "java/lang/String" "COMPACT_STRINGS" "Z" (.int z) ∧ ¬ z = 0 ∧ 0 < A.slots.size ∧ A.slots.size ≤ 536870912 ∧ ∀ i, i < A.slots.size → ¬ 255 < cv A i
def E (a : Addr) (D : Cell) (fV fC : Field) (A : Cell) (r : Option Value) (s u : State) : Prop := Got a D fV fC A 0 A.slots.size r s u
/-- new String(chars), not empty, no char above 255: a Latin-1 String of their low bytes -/
theorem law (l : Launch) (a : Addr) (D : Cell) (fV fC : Field) (b : Addr) (A : Cell) (z : Int32) : Law l yN 2 1 3 52 yB 2 none site (P a D fV fC b A z) (E a D fV fC A) [⟨a, fC.slot⟩, ⟨a, fV.slot⟩] 1 A.slots.size := by
  refine Law.of_walk (plainFor_of_name (by decide +kernel)) (by decide +kernel) (by decide +kernel) (by decide) (fun _ _ h => by rw [h.1]; rfl) (fun _ U U' hal hh h => ⟨h.1, h.2.1.mv hal hh, h.2.2.1.al hal, h.2.2.2.1.al hal, h.2.2.2.2.1.mv hal hh, h.2.2.2.2.2.1.there hal hh, h.2.2.2.2.2.2⟩) (fun r U U' V V' h1 hal h2 h => Got.mv r U U' V V' h1 hal h2 h) ?_
  intro p e s m args below meth c s₁ X0 hexec hbytes hml hret hlk hnm hown hh0 W hP
  obtain ⟨rfl, hB, f1, f2, hA, s1, hz, l0, l2, hp⟩ := hP
  have c1 : Steps p.tables e below (s₁.setTop (entryFrame m #[.ref a, .ref b] 2)) (s₁.setTop (mkF m 0 #[.val (.ref a), .val (.ref b)] [])) := entry rfl
  have c2 : Steps p.tables e below (s₁.setTop (entryFrame m #[.ref a, .ref b] 2)) (s₁.setTop (mkF m 6 #[.val (.ref a), .val (.ref b)] [.null, .int (Int32.ofNat A.slots.size), .int 0, .ref b, .ref a])) := c1.trans (by
    refine XS.aloadN X0.here hexec rfl (hb hbytes d0) rfl rfl ?_
    refine XS.aloadN X0.here hexec rfl (hb hbytes d1) rfl rfl ?_
    refine iconstV X0.here hexec rfl 0 (hb hbytes d2) (by decide) ?_
    refine XS.aloadN X0.here hexec rfl (hb hbytes d3) rfl rfl ?_
    refine X0.alen hexec (hA.1.mv X0.warmed.alike hh0) rfl rfl (hb hbytes d4) ?_
    refine XS.aconstNull X0.here hexec rfl (hb hbytes d5) ?_
    exact Steps.refl _)
  obtain ⟨v3, T3, X3, E3, g3⟩ := X0.callN hexec (New4.law l a D fV fC b A z 0 A.slots.size) rfl hown (wks W (initW "java/lang/String" 27 New4.yN)) (W New4.tab (by simp only [site, List.mem_cons, List.mem_append, true_or, or_true])) (W := 0) (Nat.le_of_ble_eq_true rfl) (Nat.le_of_ble_eq_true rfl) (Nat.le_refl _) (by show 0 + A.slots.size ≤ A.slots.size; omega) (g := (mkF m 6 #[.val (.ref a), .val (.ref b)] [.null, .int (Int32.ofNat A.slots.size), .int (Int32.ofNat 0), .ref b, .ref a])) rfl (by rw [hml]; rfl) c2 (argsL := [.ref b, .int (Int32.ofNat 0), .int (Int32.ofNat A.slots.size), .null]) (rest := []) rfl rfl (by show 2 * 0 + 0 ≤ _; decide) (hb hbytes d6) (⟨rfl, hB.mv X0.warmed.alike hh0, f1.al X0.warmed.alike, f2.al X0.warmed.alike, hA.mv X0.warmed.alike hh0, s1.there X0.warmed.alike hh0, hz, l0, by omega, l2, fun i hi => by rw [Nat.zero_add]; exact hp i hi⟩)
  have e0 := Got.mv _ s₁ s _ _ hh0.symm (Vm.Alike.refl _) rfl E3
  obtain rfl := e0.1
  have c4 : Steps p.tables e below (s₁.setTop (entryFrame m #[.ref a, .ref b] 2)) (T3.setTop (mkF m 9 #[.val (.ref a), .val (.ref b)] [])) := g3
  exact ⟨T3, none, _, _, _, X3, by simp, rfl, by omega, (fun _ => rfl), e0, fun fs hl => c4.trans (X3.returnOut hexec hret (hb hbytes d9) hl)⟩
theorem pays {l : Launch} {R : Room} {p : Program} {e : Env} {below : List Frame} {s : State} {sargs : Array Value} {len W : Nat} (a : Addr) (D : Cell) (fV fC : Field) (b : Addr) (A : Cell) (z : Int32) (htab : tab.before sargs s = true) (hfr : 4 ≤ R.frames) (hlo : W + 65 ≤ R.locals) :
    Back l R p e below s sargs yN len W (fun A₁ a₁ => A₁.cells + 1 ≤ R.cells ∧ A₁.slots + A.slots.size ≤ R.slots ∧ P a D fV fC b A z a₁ A₁.U) (fun A₁ _ v₁ B₁ => E a D fV fC A v₁ A₁.U B₁.U ∧ B₁.locs = A₁.locs ++ [⟨a, fC.slot⟩, ⟨a, fV.slot⟩] ∧ B₁.cells = A₁.cells + 1 ∧ B₁.slots = A₁.slots + A.slots.size) :=
  (law l a D fV fC b A z).pays htab hfr (by omega)
end New1
end StrChars
namespace StrChars.Road
open Jvm Sem ClassFile Op Lib Jvm.Stand Jvm.Free Jvm.Free.XT
open Jvm.Lib.Cold (StaticIs)
abbrev ST : String := "java/lang/String"
/-- every table word that New1's law asks, flat -/
abbrev words : List Jvm.Cond := [.code New1.yN New1.yB 2 none, .initialized ST, .methodLink ST 27 New4.yN, .instanceMethod New4.yN,
  .code New4.yN New4.yB 6 none, .fieldLink ST 38 ST "COMPACT_STRINGS" "Z", .laysFinal ST ST "value" "[B", .fieldLink ST 9 ST "value" "[B", .laysFinal ST ST "coder" "B", .fieldLink ST 15 ST "coder" "B",
  .methodLink ST 1 Lib.objectInit, .instanceMethod Lib.objectInit, .code Lib.objectInit ⟨#[0xb1]⟩ 1 none, .methodLink ST 177 Cmp3.yN, .static Cmp3.yN, .methodLink ST 47 CodL.yN, .static CodL.yN,
  .code Cmp3.yN Cmp3.yB 6 (some (.array .byte)), .initialized U16, .arrayClass .byte, .methodLink U16 115 Cmp5.yN, .static Cmp5.yN, .code Cmp5.yN Cmp5.yB 7 (some .int), .code CodL.yN CodL.yB 2 (some .byte)]
theorem tab_of {a : Array Value} {s : State} (h : ∀ w ∈ words, w.before a s = true) : New1.tab.before a s = true := by
  have h5 : Cmp5.tab.before a s = true := unparts (wk h (.code Cmp5.yN Cmp5.yB 7 (some .int))) (wks h (.initialized Cmp5.yN.cls :: Cmp5.site))
  have hc : CodL.tab.before a s = true := unparts (wk h (.code CodL.yN CodL.yB 2 (some .byte))) (wks h (.initialized CodL.yN.cls :: CodL.site))
  have q5 : ∀ w ∈ Cmp5.tab :: words, w.before a s = true := fun w hw => (List.mem_cons.mp hw).elim (fun e => e ▸ h5) (h w)
  have h3 : Cmp3.tab.before a s = true := unparts (wk q5 (.code Cmp3.yN Cmp3.yB 6 (some (.array .byte)))) (wks q5 (.initialized Cmp3.yN.cls :: Cmp3.site))
  have q3 : ∀ w ∈ Cmp3.tab :: CodL.tab :: words, w.before a s = true := fun w hw => (List.mem_cons.mp hw).elim (fun e => e ▸ h3) fun hw => (List.mem_cons.mp hw).elim (fun e => e ▸ hc) (h w)
  have h4 : New4.tab.before a s = true := unparts (wk q3 (.code New4.yN New4.yB 6 none)) (wks q3 (.initialized New4.yN.cls :: New4.site))
  have q4 : ∀ w ∈ New4.tab :: words, w.before a s = true := fun w hw => (List.mem_cons.mp hw).elim (fun e => e ▸ h4) (h w)
  exact unparts (wk q4 (.code New1.yN New1.yB 2 none)) (wks q4 (.initialized New1.yN.cls :: New1.site))
/-- the words ride from the start Z to the walk's own state -/
theorem moved {Z s : State} {a0 args : Array Value} (hZ : Z.Warmed39 s.vm) (hw : ∀ d ∈ words, d.before a0 Z = true) : ∀ d ∈ words, d.before args s = true := fun d hd => by
  have q := hw d hd
  have t : ∀ d ∈ words, d = .arrayClass .byte ∨ (d.onTables && d.keepsFace) = true := by decide +kernel
  rcases t d hd with rfl | t
  · exact RoadKit.mvA hZ q
  · exact RoadKit.mv hZ q t
/-- WHAT COMES BACK, over the tables of the start Z: h the heap at the call, h' behind it -/
def Q (Z : State) (x : Addr) (A : Cell) (h : Heap) (v : Option Value) (h' : Heap) (L : List Loc) : Prop := v = none ∧ (∀ y ∈ L, y.base = x) ∧ RoadKit.Keep h h' [x] ∧ h'.size = h.size + 1 ∧ RoadKit.Exa Z h' x ST ∧ RoadKit.Fld Z h' x ST "value" "[B" (.ref h.size) ∧ RoadKit.Fld Z h' x ST "coder" "B" (.int 0) ∧
  (∃ V : Cell, RoadKit.Arr Z h' h.size V .byte ∧ V.vm = .none ∧ Z.vm.findClass "[B" = some V.cls ∧ V.slots.size = A.slots.size ∧ ∀ j, j < A.slots.size → V.slots[j]? = some (.int (lo8 (cv A j)))) ∧
  ∀ (O n d : String) (w : Value), RoadKit.Fld Z h x O n d w → RoadKit.slotOf Z O n d ≠ RoadKit.slotOf Z ST "value" "[B" → RoadKit.slotOf Z O n d ≠ RoadKit.slotOf Z ST "coder" "B" → RoadKit.Fld Z h' x O n d w
/-- **new String(chars) AT A CALL, IN THE ROAD'S FORM**: for specialBack behind newO: x the fresh String, b the char[] with the cell A -/
theorem back {p : Program} {l : Launch} {e : Env} {R : Room} {s : State} {args : Array Value} {below : List Frame} {len W : Nat} {Z : State} {a0 : Array Value} {h : Heap} (hZ : Z.Warmed39 s.vm) (hw : ∀ d ∈ words, d.before a0 Z = true) {kI : Nat} (wi : (Jvm.Cond.instantiable ST kI).before a0 Z = true)
    {x b : Addr} {A : Cell} {z : Int32} {v0 c0 : Value} (E : RoadKit.Exa Z h x ST) (V : RoadKit.Fld Z h x ST "value" "[B" v0) (C : RoadKit.Fld Z h x ST "coder" "B" c0) (K : RoadKit.Arr Z h b A .char) (hty : Typed .char A) (S : RoadKit.Sta Z h ST "COMPACT_STRINGS" "Z" (.int z)) (hz : ¬ z = 0)
    (l0 : 0 < A.slots.size) (l2 : A.slots.size ≤ 536870912) (hp : ∀ i, i < A.slots.size → ¬ 255 < cv A i) (hfr : 4 ≤ R.frames) (hlo : W + 65 ≤ R.locals) :
    Back l R p e below s args New1.yN len W (fun P a => a = #[.ref x, .ref b] ∧ P.U.heap = h ∧ P.cells + 1 ≤ R.cells ∧ P.slots + A.slots.size ≤ R.slots)
      (fun P _ v B => ∃ L, Q Z x A h v B.U.heap L ∧ B.locs = P.locs ++ L ∧ B.cells = P.cells + 1 ∧ B.slots = P.slots + A.slots.size) := by
  intro m meth c P g ig mk a X hg hsize hdg hW hn hp'
  obtain ⟨rfl, rfl, r1, r2⟩ := hp'
  have al : Z.vm.Alike P.U.vm := hZ.alike.trans X.warmed.alike
  obtain ⟨D, cfV, kV, iV, fV, hD, gV, stV, knV, obV, asV, slV⟩ := id V
  obtain ⟨D', cfC, kC, iC, fC, hD', gC, stC, -, -, asC, slC⟩ := id C
  cases hD.symm.trans hD'
  obtain ⟨D2, kD, e1, e2, e3, e4, e5⟩ := id E
  cases hD.symm.trans e1
  obtain ⟨c2, k2, i1, i2, i3, -⟩ := Cond.instantiable_spec wi
  cases e2.symm.trans i1
  cases e3.symm.trans i2
  obtain ⟨kU, u1, u2⟩ := al.2.2 _ _ e3
  have hB : Blank ST x D P.U := ⟨hD, ⟨knV, fun q hq => by rw [hq] at obV; cases obV⟩, by rw [al.findClass]; exact e2, kU, u1, by rw [u2]; exact i3, by rw [u2]; exact e5 i3⟩
  have F1 : Found ST "value" "[B" fV P.U := ⟨SBG.found_only al ⟨cfV, kV, iV, gV⟩, stV⟩
  have F2 : Found ST "coder" "B" fC P.U := ⟨SBG.found_only al ⟨cfC, kC, iC, gC⟩, stC⟩
  have hA : Ch b A P.U := ⟨⟨K.1, State.isArrayOf_alike al K.2.1, K.2.2, by omega⟩, hty⟩
  have hS : StaticIs P.U ST "COMPACT_STRINGS" "Z" (.int z) := by
    obtain ⟨cfS, iS, kS, fS, st, cS, t1, t2, t3, t4, t5, t6, t7⟩ := S
    exact StaticIs.there (s := { Z with heap := P.U.heap }) ⟨cfS, iS, kS, fS, st, cS, t1, t2, t3, t4, t5, (fun q => by rw [q] at t6; cases t6), t7⟩ al rfl
  obtain ⟨v, B, X', ⟨⟨hv, E', V', q1, q2, q3, q4, q5, q6, q7, q8, q9, q10, q11⟩, hl, hc, hs⟩, st⟩ := New1.pays x D fV fC b A z (tab_of (moved hZ hw)) hfr hlo m meth c P g ig mk _ X hg hsize hdg hW hn ⟨r1, r2, rfl, hB, F1, F2, hA, hS, hz, l0, l2, hp⟩
  have al' : Z.vm.Alike B.U.vm := hZ.alike.trans X'.warmed.alike
  have hsz : E'.slots.size = D.slots.size := by
    obtain ⟨-, -, -, kB, w1, w2, w3⟩ := q1
    obtain ⟨kB', y1, y2⟩ := al'.2.2 _ _ e3
    rw [q2.2.1] at w1
    cases w1.symm.trans y1
    rw [w3, e5 i3, y2]
  refine ⟨v, B, X', ⟨_, ⟨hv, ?_, ⟨by omega, fun y cy hy hn' => q10 y cy (by simpa using hn') hy, fun y cy hy => ?_⟩, q11, ⟨E', _, q1.1, by rw [q2.2.1]; exact e2, by rw [q2.2.1]; exact e3, by rw [q2.1]; exact obV, fun _ => by rw [hsz]; exact e5 i3⟩,
    ⟨E', cfV, kV, iV, fV, q1.1, gV, stV, by rw [q2.1]; exact knV, by rw [q2.1]; exact obV, by rw [q2.2.1]; exact asV, q3⟩, ⟨E', cfC, kC, iC, fC, q1.1, gC, stC, by rw [q2.1]; exact knV, by rw [q2.1]; exact obV, by rw [q2.2.1]; exact asC, q4⟩,
    ⟨V', ⟨q5.1, State.isArrayOf_alike al'.symm q5.2.1, q5.2.2.1⟩, q6, by rw [← al'.findClass]; exact q7, q8, fun j hj => by have := q9 j hj; rwa [Nat.zero_add] at this⟩, fun O n d w F n1 n2 => ?_⟩, hl, hc, hs⟩, st⟩
  · intro y hy
    simp only [List.mem_cons, List.not_mem_nil, or_false] at hy
    rcases hy with rfl | rfl <;> rfl
  · by_cases q : y = x
    · subst q
      cases hD.symm.trans hy
      exact ⟨E', q1.1, q2.2.1, q2.1, hsz⟩
    · exact ⟨cy, q10 y cy q hy, rfl, rfl, rfl⟩
  · obtain ⟨D3, cf, k, i, f, g1, g2, g3, g4, g5, g6, g7⟩ := F
    cases hD.symm.trans g1
    simp only [RoadKit.slotOf, g2, gV, gC, Option.map_some, Option.getD_some] at n1 n2
    exact ⟨E', cf, k, i, f, q1.1, g2, g3, by rw [q2.1]; exact g4, by rw [q2.1]; exact g5, by rw [q2.2.1]; exact g6, by rw [q2.2.2 f.slot (by simp [n1, n2])]; exact g7⟩
end StrChars.Road
namespace StrChars.Road
open Jvm Sem ClassFile Op Lib Jvm.Stand Jvm.Free Jvm.Free.XT
/-- WHAT COMES BACK, the byte[] as a list of values -/
def QA (Z : State) (x : Addr) (zn : Int32) (cs : List Int32) (h : Heap) (v : Option Value) (h' : Heap) (L : List Loc) : Prop := v = none ∧ (∀ y ∈ L, y.base = x) ∧ RoadKit.Keep h h' [x] ∧ h'.size = h.size + 1 ∧ RoadKit.Exa Z h' x ST ∧ RoadKit.Fld Z h' x ST "value" "[B" (.ref h.size) ∧ RoadKit.Fld Z h' x ST "coder" "B" (.int 0) ∧
  (∃ kb, Z.vm.findClass "[B" = some kb ∧ RoadKit.Arv Z h' h.size kb .byte zn (cs.map fun c => .int (lo8 c)) (.int 0)) ∧
  ∀ (O n d : String) (w : Value), RoadKit.Fld Z h x O n d w → RoadKit.slotOf Z O n d ≠ RoadKit.slotOf Z ST "value" "[B" → RoadKit.slotOf Z O n d ≠ RoadKit.slotOf Z ST "coder" "B" → RoadKit.Fld Z h' x O n d w
/-- **new String(chars) AT A CALL, THE ARRAYS AS LISTS**: the char[] at b holds cs, not empty, no char above 255 -/
theorem backArv {p : Program} {l : Launch} {e : Env} {R : Room} {s : State} {args : Array Value} {below : List Frame} {len W : Nat} {Z : State} {a0 : Array Value} {h : Heap} (hZ : Z.Warmed39 s.vm) (hw : ∀ d ∈ words, d.before a0 Z = true) {kI : Nat} (wi : (Jvm.Cond.instantiable ST kI).before a0 Z = true)
    {x b : Addr} {k : ClassId} {zn z : Int32} {cs : List Int32} {dv v0 c0 : Value} (E : RoadKit.Exa Z h x ST) (V : RoadKit.Fld Z h x ST "value" "[B" v0) (C : RoadKit.Fld Z h x ST "coder" "B" c0) (K : RoadKit.Arv Z h b k .char zn (cs.map Value.int) dv) (S : RoadKit.Sta Z h ST "COMPACT_STRINGS" "Z" (.int z)) (hz : ¬ z = 0)
    (hlen : zn.toNatClampNeg = cs.length) (h0 : 0 < cs.length) (hbig : cs.length ≤ 536870912) (hall : ∀ c ∈ cs, ¬ 255 < c) (hfr : 4 ≤ R.frames) (hlo : W + 65 ≤ R.locals) :
    Back l R p e below s args New1.yN len W (fun P a => a = #[.ref x, .ref b] ∧ P.U.heap = h ∧ P.cells + 1 ≤ R.cells ∧ P.slots + cs.length ≤ R.slots)
      (fun P _ v B => ∃ L, QA Z x zn cs h v B.U.heap L ∧ B.locs = P.locs ++ L ∧ B.cells = P.cells + 1 ∧ B.slots = P.slots + cs.length) := by
  obtain ⟨A, K1, K2, K3, K4, K5, K6⟩ := K
  have e : A.slots.size = cs.length := K3.trans hlen
  have hat : ∀ (i : Nat) (hi : i < cs.length), A.slots[i]? = some (.int cs[i]) := fun i hi => by rw [K5 i (by omega)]; simp [List.getD_eq_getElem?_getD, hi]
  have hcv : ∀ (i : Nat) (hi : i < cs.length), cv A i = cs[i] := fun i hi => by unfold cv; rw [hat i hi]
  have hty : Typed .char A := fun i v hv => by
    have hi : i < A.slots.size := (Array.getElem?_eq_some_iff.mp hv).1
    have q := K5 i hi
    rw [hv] at q
    rw [Option.some.inj q]
    exact K6 i hi
  refine Back.mono (back hZ hw wi E V C K1 hty S hz (by omega) (by omega) (fun i hi => by rw [hcv i (by omega)]; exact hall _ (List.getElem_mem _)) hfr hlo) (fun P a hp => ⟨hp.1, hp.2.1, hp.2.2.1, by rw [e]; exact hp.2.2.2⟩) (fun P a v B hp hq => ?_)
  obtain ⟨L, ⟨q1, q2, q3, q4, q5, q6, q7, ⟨V', v1, v2, v3, v4, v5⟩, q9⟩, hl, hc, hs⟩ := hq
  refine ⟨L, ⟨q1, q2, q3, q4, q5, q6, q7, ⟨V'.cls, v3, V', v1, rfl, by rw [v4, e, hlen], K4, fun i hi => ?_, fun i hi => ?_⟩, q9⟩, hl, hc, by rw [hs, e]⟩
  · have hi' : i < cs.length := by omega
    rw [v5 i (by omega), hcv i hi']; simp [List.getD_eq_getElem?_getD, hi']
  · have hi' : i < cs.length := by omega
    simp only [List.getD_eq_getElem?_getD, List.getElem?_map, List.getElem?_eq_getElem hi', Option.map_some, Option.getD_some]
    exact fits_lo8 _
end StrChars.Road
namespace StrChars.Road
open Jvm Sem ClassFile Op Lib Jvm.Stand Jvm.Free Jvm.Free.XT
/-- WHAT COMES BACK, in the writer's own shape -/
def QV (Z : State) (x : Addr) (N : Int32) (bs : List Int32) (h : Heap) (n0 : Nat) (v : Option Value) (h' : Heap) (L : List Loc) : Prop := v = none ∧ RoadKit.Fr n0 L ∧ RoadKit.Keep h h' [x] ∧ RoadKit.Exa Z h' x ST ∧ RoadKit.Fld Z h' x ST "coder" "B" (.int 0) ∧
  ∃ (t : Addr) (kb : ClassId), n0 ≤ t ∧ h.size ≤ t ∧ ¬ t = x ∧ RoadKit.Fld Z h' x ST "value" "[B" (.ref t) ∧ RoadKit.Arv Z h' t kb .byte N (bs.map Value.int) (.int 0)
/-- **new String(chars) AT A CALL, FOR THE WRITER**: a char[] of n known ints, each 0 to 255 -/
theorem backV {p : Program} {l : Launch} {e : Env} {R : Room} {s : State} {args : Array Value} {below : List Frame} {len W : Nat} {Z : State} {a0 : Array Value} {h : Heap} (hZ : Z.Warmed39 s.vm) (hw : ∀ d ∈ words, d.before a0 Z = true) {kI : Nat} (wi : (Jvm.Cond.instantiable ST kI).before a0 Z = true)
    {x b : Addr} {kC : ClassId} {cs bs : List Int32} {d v0 c0 : Value} {z N : Int32} {n n0 : Nat} (hx0 : n0 ≤ x) (hh0 : n0 ≤ h.size) (E : RoadKit.Exa Z h x ST) (V : RoadKit.Fld Z h x ST "value" "[B" v0) (C : RoadKit.Fld Z h x ST "coder" "B" c0) (K : RoadKit.Arv Z h b kC .char N (cs.map Value.int) d) (S : RoadKit.Sta Z h ST "COMPACT_STRINGS" "Z" (.int z)) (hz : ¬ z = 0)
    (hn : cs.length = n) (hN : N = Int32.ofNat n) (l0 : 0 < n) (l2 : n ≤ 4000) (hp : ∀ c ∈ cs, ¬ c < 0 ∧ ¬ (255 : Int32) < c) (hb : bs = cs.map (fun c => c.toInt8.toInt32)) (hfr : 4 ≤ R.frames) (hlo : W + 65 ≤ R.locals) :
    Back l R p e below s args (⟨"java/lang/String", "<init>", "([C)V"⟩ : MethodName) len W (fun P a => a = #[.ref x, .ref b] ∧ P.U.heap = h ∧ P.cells + 1 ≤ R.cells ∧ P.slots + n ≤ R.slots)
      (fun P _ v B => ∃ L, QV Z x N bs h n0 v B.U.heap L ∧ B.locs = P.locs ++ L ∧ B.cells = P.cells + 1 ∧ B.slots = P.slots + n) := by
  subst hn hN hb
  refine Back.mono (backArv hZ hw wi E V C K S hz (n32 (by omega)) l0 (by omega) (fun c hc => (hp c hc).2) hfr hlo) (fun P a hp => hp) (fun P a v B hp hq => ?_)
  obtain ⟨L, ⟨q1, q2, q3, q4, q5, q6, q7, ⟨kb, v1, v2⟩, q9⟩, hl, hc, hs⟩ := hq
  exact ⟨L, ⟨q1, fun y hy => by rw [q2 y hy]; exact hx0, q3, q5, q7, h.size, kb, hh0, Nat.le_refl _, Nat.ne_of_gt E.lt, q6, by rw [List.map_map]; exact v2⟩, hl, hc, hs⟩
end StrChars.Road
end Jvm.Pilot.@@N@@
namespace Jvm.Pilot.@@N@@
open Jvm Jvm.ClassFile Sem Op Lib Jvm.Free Jvm.Stand Jvm.LawKit Jvm.RoadKit Bundle Jvm.Pilot.@@N@@.Jvm.D
section Own
variable {p : Program} {l : Launch} {e : Env} {R : Room} {s : State} {m : MethodId} {args : Array Value} {below : List Frame} {meth : Method} {c : Code} {T : State} {locs : List Loc} {cells slots : Nat} {Z : State} {a0 : Array Value} {h h' : Heap}
theorem own_hb {c : ClassFile.Code} {code : ByteArray} (h : c.code = code) {pc : Nat} {r : Except ClassFile.DecodeError (ClassFile.Instr × Nat)} (h2 : ClassFile.decode code pc = r) : ClassFile.decode c.code pc = r := h ▸ h2
/-- from S the run comes to an end of the method of which QQ holds -/
def own_Go (p : Program) (e : Env) (below : List Frame) (S : State) (QQ : Outcome → State → Prop) : Prop :=
  ∃ s₂ o, Steps p.tables e below S s₂ ∧ s₂.status = .running ∧ Ended s₂ below o ∧ QQ o s₂
theorem own_Go.of {S S' : State} {QQ : Outcome → State → Prop} (h : ∀ t, Steps p.tables e below S' t → Steps p.tables e below S t) (g : own_Go p e below S' QQ) : own_Go p e below S QQ := by
  obtain ⟨a, b, h1, h2⟩ := g
  exact ⟨a, b, h _ h1, h2⟩
/-- how a walked body ends: it returns v, with Q of the value, the heap and the places written -/
def own_End (s : State) (Q : Option Value → Heap → List Loc → Prop) (C K : Nat) : Outcome → State → Prop :=
  fun o U' => ∃ v L, o = .returned v ∧ Q v U'.heap L ∧ FrameEnd s o U' L C K
/-- the contract of a body, as RoadKit.backOf takes it -/
abbrev own_Met (l : Launch) (Z : State) (h0 : Heap) (y : MethodName) (bytes : ByteArray) (maxL : Nat) (ret : Option FieldType) (ws : List Jvm.Cond) (rm : Room) (as' : Array Value) (Q : Option Value → Heap → List Loc → Prop) : Prop :=
  MetFree l y (head1 (Jvm.Cond.code y bytes maxL ret :: ws) rm) (fun a U => a = as' ∧ Z.Warmed39 U.vm ∧ U.heap = h0) (fun _ _ _ _ _ => True) (fun _ U o U' => ∃ v L, o = .returned v ∧ Q v U'.heap L ∧ FrameEnd U o U' L rm.cells rm.slots)
theorem own_enter {h0 : Heap} {y : MethodName} {bytes : ByteArray} {maxL : Nat} {ret : Option FieldType} {ws : List Jvm.Cond} {rm : Room} {as' : Array Value} {Q : Option Value → Heap → List Loc → Prop} (hpl : plainFor y = true)
    (body : ∀ (p : Program) (e : Env) (s : State) (m : MethodId) (below : List Frame) (meth : Method) (c : Code) (T0 : State), Stand p l e rm s m as' below meth c T0 [] 0 0 → p.tables.exec = Jvm.exec → c.code = bytes → c.maxLocals = maxL → meth.sig.returnType = ret → meth.locks = false → s.vm.findClass y.cls = some m.cls → meth.name = y.name → Z.Warmed39 s.vm → T0.heap = h0 →
      own_Go p e below (T0.setTop (entryFrame m as' maxL)) (own_End s Q rm.cells rm.slots)) : own_Met l Z h0 y bytes maxL ret ws rm as' Q := by
  refine MetFree.of_bodySF hpl hisR ?_
  intro p e s m args below meth c s₁ Bd hml0 hP hK
  obtain ⟨rfl, hZ, hh⟩ := hP
  exact body p e s m below meth c s₁ (Stand.of_body Bd) Bd.exec Bd.bytes hml0 Bd.returns Bd.notSynchronized (findClass_of_methodNamed Bd.named) (name_of_methodNamed Bd.named Bd.method).1 hZ (by rw [← hh, Bd.state]; rfl)
theorem own_mono (X : Stand p l e R s m args below meth c T locs cells slots) {c' k' : Nat} (hc : cells ≤ c') (hk : slots ≤ k') : Stand p l e R s m args below meth c T locs c' k' :=
  ⟨X.admits, X.cas, X.clock, X.frames, X.room, X.hears, X.method, X.code, X.here, X.tail, X.warmed, X.limits, X.bytes, X.same.mono hc hk⟩
theorem own_leave (X : Stand p l e R s m args below meth c T locs cells slots) (hlk : meth.locks = false) {v : Option Value} {Q : Option Value → Heap → List Loc → Prop} {C K : Nat} {g : JFrame} (hv : meth.sig.returnType = none → v = none)
    (st : ∀ fs, (∀ (f : JFrame) (acts : List Action), f.method = m → f.locked = none → f.entered = [] → (doReturn e (T.setTop f) acts v).1 = T.setFrames fs) → Steps p.tables e below (T.setTop g) (T.setFrames fs))
    (eT : T.heap = h) (hQ : Q v h locs) (hc : cells ≤ C) (hk : slots ≤ K) : own_Go p e below (T.setTop g) (own_End s Q C K) := by
  obtain ⟨fs, hr, hrun, hended, hW, hsame⟩ := X.leave (v := v) hv hlk
  subst eT
  exact ⟨_, _, st fs hr, hrun, hended, v, locs, rfl, hQ, ⟨_, rfl⟩, hW, hsame.mono hc hk⟩
theorem own_retI (X : Stand p l e R s m args below meth c T locs cells slots) (hx : p.tables.exec = Jvm.exec) (hlk : meth.locks = false) {pc : Nat} {Ls : Array Slot} {z : Int32} {rest : List Value} {Q : Option Value → Heap → List Loc → Prop} {C K : Nat} (hret : meth.sig.returnType = some .int) (hd : decode c.code pc = .ok (.ireturn, 1))
    (eT : T.heap = h) (hQ : Q (some (.int z)) h locs) (hc : cells ≤ C) (hk : slots ≤ K) : own_Go p e below (T.setTop (mkF m pc Ls (.int z :: rest))) (own_End s Q C K) := by
  refine own_leave X hlk (fun q => by rw [hret] at q; cases q) (fun fs hl => ?_) eT hQ hc hk
  have hm' : T.vm.method? m = some meth := X.method'
  have hn : narrow .int (.int z) = .int z := rfl
  show Steps p.tables e below (T.setTop { method := m, pc := pc, locals := Ls, stack := _ :: rest, locked := none }) _
  jvm_step X.here [X.here.top, hx, hd, hm', hret, hn]
  first | (intro acts; rw [hl _ acts rfl rfl rfl]) | rw [hl _ _ rfl rfl rfl]
  exact Steps.refl _
theorem own_retN (X : Stand p l e R s m args below meth c T locs cells slots) (hx : p.tables.exec = Jvm.exec) (hlk : meth.locks = false) {pc : Nat} {Ls : Array Slot} {z : Int32} {t : FieldType} {rest : List Value} {Q : Option Value → Heap → List Loc → Prop} {C K : Nat} (hret : meth.sig.returnType = some t) (ht : t = .boolean ∨ t = .byte ∨ t = .char ∨ t = .short) (hd : decode c.code pc = .ok (.ireturn, 1))
    (eT : T.heap = h) (hQ : Q (some (.int (nar t z))) h locs) (hc : cells ≤ C) (hk : slots ≤ K) : own_Go p e below (T.setTop (mkF m pc Ls (.int z :: rest))) (own_End s Q C K) :=
  own_leave X hlk (fun q => by rw [hret] at q; cases q) (fun fs hl => retN X hx hret ht hd hl) eT hQ hc hk
theorem own_retV (X : Stand p l e R s m args below meth c T locs cells slots) (hx : p.tables.exec = Jvm.exec) (hlk : meth.locks = false) {pc : Nat} {Ls : Array Slot} {Q : Option Value → Heap → List Loc → Prop} {C K : Nat} (hret : meth.sig.returnType = none) (hd : decode c.code pc = .ok (.return_, 1))
    (eT : T.heap = h) (hQ : Q none h locs) (hc : cells ≤ C) (hk : slots ≤ K) : own_Go p e below (T.setTop (mkF m pc Ls [])) (own_End s Q C K) :=
  own_leave X hlk (fun _ => rfl) (fun fs hl => X.returnOut hx hret hd hl) eT hQ hc hk
theorem own_retJ (X : Stand p l e R s m args below meth c T locs cells slots) (hx : p.tables.exec = Jvm.exec) (hlk : meth.locks = false) {pc : Nat} {Ls : Array Slot} {z : Int64} {Q : Option Value → Heap → List Loc → Prop} {C K : Nat} (hret : meth.sig.returnType = some .long) (hd : decode c.code pc = .ok (.lreturn, 1))
    (eT : T.heap = h) (hQ : Q (some (.long z)) h locs) (hc : cells ≤ C) (hk : slots ≤ K) : own_Go p e below (T.setTop (mkF m pc Ls [.long z])) (own_End s Q C K) :=
  own_leave X hlk (fun q => by rw [hret] at q; cases q) (fun fs hl => X.lreturnOut hx hret hd hl) eT hQ hc hk
theorem own_retA (X : Stand p l e R s m args below meth c T locs cells slots) (hx : p.tables.exec = Jvm.exec) (hlk : meth.locks = false) {pc : Nat} {Ls : Array Slot} {v : Value} {t : FieldType} {rest : List Value} {Q : Option Value → Heap → List Loc → Prop} {C K : Nat} (hret : meth.sig.returnType = some t) (ht : t.isReference = true) (hv : v.isRef = true) (hd : decode c.code pc = .ok (.areturn, 1))
    (eT : T.heap = h) (hQ : Q (some v) h locs) (hc : cells ≤ C) (hk : slots ≤ K) : own_Go p e below (T.setTop (mkF m pc Ls (v :: rest))) (own_End s Q C K) := by
  refine own_leave X hlk (fun q => by rw [hret] at q; cases q) (fun fs hl => ?_) eT hQ hc hk
  have hm' : T.vm.method? m = some meth := X.method'
  show Steps p.tables e below (T.setTop { method := m, pc := pc, locals := Ls, stack := _ :: rest, locked := none }) _
  jvm_step X.here [X.here.top, hx, hd, hm', hret, ht, hv]
  first | (intro acts; rw [hl _ acts rfl rfl rfl]) | rw [hl _ _ rfl rfl rfl]
  exact Steps.refl _
/-! an array whose place i holds f i -/
def own_Ar (Z : State) (h : Heap) (a : Addr) (ty : FieldType) (n : Nat) (f : Nat → Value) : Prop :=
  n < 2 ^ 31 ∧ ∃ c : Cell, Arr Z h a c ty ∧ c.slots.size = n ∧ ∀ i, i < n → c.slots[i]? = some (f i) ∧ fits ty (f i) = true
def own_up (f : Nat → Value) (k : Nat) (v : Value) : Nat → Value := fun i => if i = k then v else f i
def own_I (g : Nat → Int32) : Nat → Value := fun j => .int (g j)
def own_set (g : Nat → Int32) (k : Nat) (x : Int32) : Nat → Int32 := fun j => if j = k then x else g j
theorem own_upI {g : Nat → Int32} {k : Nat} {x : Int32} : own_up (own_I g) k (.int x) = own_I (own_set g k x) := by
  funext j
  unfold own_up own_I own_set
  by_cases q : j = k
  · rw [if_pos q, if_pos q]
  · rw [if_neg q, if_neg q]
section Arrays
variable {a b : Addr} {ty : FieldType} {n k : Nat} {f : Nat → Value} {v : Value} {ws : List Addr} {sl : Nat} {j : Int32}
theorem own_Ar.lt (F : own_Ar Z h a ty n f) : a < h.size := by obtain ⟨_, c, A, _⟩ := F; exact A.lt
theorem own_Ar.ext (F : own_Ar Z h a ty n f) (E : Ext h h') : own_Ar Z h' a ty n f := by obtain ⟨q, c, A, r⟩ := F; exact ⟨q, c, A.ext E, r⟩
theorem own_Ar.other (F : own_Ar Z h b ty n f) (W : Wr h h' a sl v) (q : b ≠ a) : own_Ar Z h' b ty n f := by obtain ⟨q0, c, A, r⟩ := F; exact ⟨q0, c, A.other W q, r⟩
theorem own_Ar.keep (F : own_Ar Z h a ty n f) (K : Keep h h' ws) (q : a ∉ ws) : own_Ar Z h' a ty n f := by obtain ⟨q0, c, A, r⟩ := F; exact ⟨q0, c, ⟨K.2.1 a c A.1 q, A.2⟩, r⟩
theorem own_Ar.eqv {g : Nat → Value} (F : own_Ar Z h a ty n f) (q : ∀ i, i < n → f i = g i) : own_Ar Z h a ty n g := by
  obtain ⟨q0, c, A, r1, r2⟩ := F; exact ⟨q0, c, A, r1, fun i hi => by rw [← q i hi]; exact r2 i hi⟩
theorem own_Ar.eqvI {g g' : Nat → Int32} (F : own_Ar Z h a ty n (own_I g)) (q : ∀ i, i < n → g i = g' i) : own_Ar Z h a ty n (own_I g') := F.eqv fun i hi => by show Value.int _ = Value.int _; rw [q i hi]
theorem own_clamp (hk : k < 2 ^ 31) : (Int32.ofNat k).toNatClampNeg = k ∧ ¬ Int32.ofNat k < 0 := by
  have e : (Int32.ofNat k).toInt = (k : Int) := Int32.toInt_ofNat_of_lt hk
  refine ⟨?_, ?_⟩
  · show (Int32.ofNat k).toInt.toNat = k
    rw [e]; rfl
  · rw [Int32.lt_iff_toInt_lt, e]
    show ¬ ((k : Int) < 0)
    omega
theorem own_inb {cl : Cell} (S : cl.slots.size = n) (hn : n < 2 ^ 31) (e : j = Int32.ofNat k) (hk : k < n) : ¬ (j < 0 ∨ cl.slots.size ≤ j.toNatClampNeg) := by
  subst e
  obtain ⟨e1, e2⟩ := own_clamp (k := k) (by omega)
  rw [e1, S]
  rintro (q | q)
  · exact e2 q
  · omega
theorem own_Ar.get (F : own_Ar Z h a ty n f) (q : j = Int32.ofNat k ∧ k < n) : ∃ cl : Cell, Arr Z h a cl ty ∧ ¬ (j < 0 ∨ cl.slots.size ≤ j.toNatClampNeg) ∧ cl.slots[j.toNatClampNeg]? = some (f k) := by
  obtain ⟨hn, c, A, S, H⟩ := F
  refine ⟨c, A, own_inb S hn q.1 q.2, ?_⟩
  rw [q.1, (own_clamp (k := k) (by omega)).1]
  exact (H k q.2).1
theorem own_Ar.len (F : own_Ar Z h a ty n f) : ∃ cl : Cell, Arr Z h a cl ty ∧ cl.slots.size.toInt32 = Int32.ofNat n := by
  obtain ⟨hn, c, A, S, H⟩ := F
  refine ⟨c, A, ?_⟩
  rw [S]
theorem own_Ar.put (F : own_Ar Z h a ty n f) (q : j = Int32.ofNat k ∧ k < n) : ∃ cl : Cell, Arr Z h a cl ty ∧ ¬ (j < 0 ∨ cl.slots.size ≤ j.toNatClampNeg) ∧ ∀ {v : Value} {h' : Heap}, fits ty v = true → Wr h h' a j.toNatClampNeg v → own_Ar Z h' a ty n (own_up f k v) := by
  obtain ⟨hn, c, A, S, H⟩ := F
  refine ⟨c, A, own_inb S hn q.1 q.2, fun {v h'} hv W => ⟨hn, _, A.same W, by rw [sz_set]; exact S, fun i hi => ?_⟩⟩
  rw [q.1, (own_clamp (k := k) (by omega)).1]
  by_cases u : i = k
  · subst u
    simp [own_up, Cell.setSlot, S, hi, hv]
  · have u' : ¬ k = i := fun z => u z.symm
    simp only [own_up, u, if_false, Cell.setSlot, Array.getElem?_setIfInBounds, u']
    exact H i hi
theorem own_newP (X : Stand p l e R s m args below meth c T locs cells slots) (hx : p.tables.exec = Jvm.exec) (hZ : Z.Warmed39 s.vm) {aty : ArrayType} (w : (Cond.arrayClass (newarray.typeOf aty)).before a0 Z = true) (eT : T.heap = h) {g : JFrame} (hg : g.method = m) (hd : decode c.code g.pc = .ok (.newarray aty, 2)) {z : Int32} {rest : List Value} (hs : g.stack = .int z :: rest)
    {n cap : Nat} (hz : z = Int32.ofNat n) (hn : n ≤ cap) (hb : cap * 8 ≤ 536870912) (hc : cells + 1 ≤ R.cells) (hl : slots + cap ≤ R.slots) :
    ∃ T' h', Stand p l e R s m args below meth c T' locs (cells + 1) (slots + cap) ∧ T'.heap = h' ∧ Ext h h' ∧ own_Ar Z h' h.size (newarray.typeOf aty) n (fun _ => defaultValue (newarray.typeOf aty)) ∧
      ∀ target, Steps p.tables e below (T'.setTop { g with pc := g.pc + 2, stack := .ref h.size :: rest }) target → Steps p.tables e below (T.setTop g) target := by
  obtain ⟨e1, e2⟩ := own_clamp (k := n) (by omega)
  subst hz
  obtain ⟨T', h', cA, X', e', E, A, st⟩ := newP X hx hZ w eT hg hd hs e2 (cap := cap) (by rw [e1]; exact hn) hb hc hl
  refine ⟨T', h', X', e', E, ⟨by omega, _, A, by rw [sz_new, e1], fun i hi => ⟨?_, by cases aty <;> rfl⟩⟩, st⟩
  simp [newA, e1, hi]
end Arrays
theorem own_st1 {l : Array Slot} {i : Nat} {v : Value} {o : Slot} (hold : l[i]? = some o) (ho : o = .unset ∨ ∃ w, o = .val w ∧ w.category = 1) (hv : v.category = 1) : storeLocals l i v = some (l.setIfInBounds i (.val v)) := XS.store1 hold ho hv
/-- the cell at x stands as it stood -/
def own_Kx (h h' : Heap) (x : Addr) : Prop := h.size ≤ h'.size ∧ ∀ c : Cell, h[x]? = some c → h'[x]? = some c
section Kx
variable {x a : Addr} {h2 : Heap} {sl : Nat} {v : Value} {ws : List Addr}
theorem own_Kx.refl : own_Kx h h x := ⟨Nat.le_refl _, fun _ q => q⟩
theorem own_Kx.ext (K : own_Kx h h' x) (E : Ext h' h2) : own_Kx h h2 x := ⟨Nat.le_trans K.1 E.1, fun c q => E.2 _ _ (K.2 c q)⟩
theorem own_Kx.keep (K : own_Kx h h' x) (K' : Keep h' h2 ws) (q : x ∉ ws) : own_Kx h h2 x := ⟨Nat.le_trans K.1 K'.1, fun c r => K'.2.1 _ _ (K.2 c r) q⟩
theorem own_Kx.wr (K : own_Kx h h' x) (W : Wr h' h2 a sl v) (q : x ≠ a) : own_Kx h h2 x := K.keep (Keep.of_wr W) (ninS q nin0)
theorem own_Kx.trans (K : own_Kx h h' x) (K' : own_Kx h' h2 x) : own_Kx h h2 x := ⟨Nat.le_trans K.1 K'.1, fun c r => K'.2 _ (K.2 c r)⟩
theorem own_Ar.kx {ty : FieldType} {n : Nat} {f : Nat → Value} (F : own_Ar Z h x ty n f) (K : own_Kx h h' x) : own_Ar Z h' x ty n f := by obtain ⟨q0, c, A, r⟩ := F; exact ⟨q0, c, ⟨K.2 c A.1, A.2⟩, r⟩
def own_Lt (h : Heap) (x : Addr) : Prop := x < h.size
theorem own_Lt.lt (q : own_Lt h x) : x < h.size := q
theorem own_Lt.ext (q : own_Lt h x) (E : Ext h h') : own_Lt h' x := Nat.lt_of_lt_of_le q E.1
theorem own_Lt.keep (q : own_Lt h x) (K : Keep h h' ws) : own_Lt h' x := Nat.lt_of_lt_of_le q K.1
theorem own_Lt.wr (q : own_Lt h x) (W : Wr h h' a sl v) : own_Lt h' x := q.keep (Keep.of_wr W)
theorem own_Lt.le (q : own_Lt h x) (K : h.size ≤ h'.size) : own_Lt h' x := Nat.lt_of_lt_of_le q K
theorem own_Lt.kx {y : Addr} (q : own_Lt h x) (K : own_Kx h h' y) : own_Lt h' x := Nat.lt_of_lt_of_le q K.1
end Kx
/-! numbers: small naturals as ints -/
theorem own_toInt {a : Nat} (ha : a < 2 ^ 31) : (Int32.ofNat a).toInt = (a : Int) := Int32.toInt_ofNat_of_lt ha
theorem own_mask (x : Int32) (m : Nat) : ∃ k : Nat, k ≤ m ∧ (x &&& Int32.ofNat m) = Int32.ofNat k := by
  refine ⟨(x.toBitVec.toNat &&& (m % 2 ^ 32)), Nat.le_trans Nat.and_le_right (Nat.mod_le _ _), ?_⟩
  apply Int32.toBitVec_inj.mp
  apply BitVec.eq_of_toNat_eq
  rw [Int32.toBitVec_and, BitVec.toNat_and]
  show _ &&& (BitVec.ofNat 32 m).toNat = (BitVec.ofNat 32 _).toNat
  rw [BitVec.toNat_ofNat, BitVec.toNat_ofNat]
  rw [Nat.mod_eq_of_lt (a := _ &&& _)]
  exact Nat.lt_of_le_of_lt Nat.and_le_right (Nat.mod_lt _ (by decide))
theorem own_ltN {a b : Nat} (ha : a < 2 ^ 31) (hb : b < 2 ^ 31) : Int32.ofNat a < Int32.ofNat b ↔ a < b := by
  rw [Int32.lt_iff_toInt_lt, own_toInt ha, own_toInt hb]; omega
theorem own_eqN' {a b : Nat} (h : a = b) : Int32.ofNat a = Int32.ofNat b := by rw [h]
theorem own_eqN {a b : Nat} (ha : a < 2 ^ 31) (hb : b < 2 ^ 31) : Int32.ofNat a = Int32.ofNat b ↔ a = b := by
  constructor
  · intro h
    have h2 := congrArg Int32.toInt h
    rw [own_toInt ha, own_toInt hb] at h2; omega
  · exact own_eqN'
theorem own_addN (a b : Nat) : Int32.ofNat a + Int32.ofNat b = Int32.ofNat (a + b) := (Int32.ofNat_add a b).symm
theorem own_subN {a b : Nat} (h : b ≤ a) : Int32.ofNat a - Int32.ofNat b = Int32.ofNat (a - b) := by
  have h2 : Int32.ofNat a = Int32.ofNat (a - b) + Int32.ofNat b := by rw [own_addN]; congr 1; omega
  rw [h2, Int32.add_sub_cancel]
theorem own_nzN {a : Nat} (h0 : 0 < a) (ha : a < 2 ^ 31) : Int32.ofNat a ≠ (0 : Int32) := by
  intro h
  have h2 : Int32.ofNat a = Int32.ofNat 0 := h
  rw [own_eqN ha (by decide)] at h2; omega
theorem own_remN {a b : Nat} (ha : a < 2 ^ 31) (hb : b < 2 ^ 31) : (Int32.ofNat a - (Int32.ofNat a / Int32.ofNat b) * Int32.ofNat b) = Int32.ofNat (a % b) := by
  apply Int32.toInt_inj.mp
  have hm : a % b < 2 ^ 31 := Nat.lt_of_le_of_lt (Nat.mod_le _ _) ha
  rw [rem_toInt, own_toInt ha, own_toInt hb, own_toInt hm]
  exact (Int.ofNat_tmod a b).symm
theorem own_bm (x : Int) (h1 : -2147483648 ≤ x) (h2 : x < 2147483648) : x.bmod (2 ^ 32) = x := Int.bmod_eq_of_le (by omega) (by omega)
theorem own_bm64 (x : Int) (h1 : -9223372036854775808 ≤ x) (h2 : x < 9223372036854775808) : x.bmod (2 ^ 64) = x := Int.bmod_eq_of_le (by omega) (by omega)
end Own
theorem own_Ar.arv {Z : State} {h : Heap} {a : Addr} {ty : FieldType} {n : Nat} {f : Nat → Value} (F : own_Ar Z h a ty n f) (d : Value) : ∃ k, Arv Z h a k ty (Int32.ofNat n) ((List.range n).map f) d := by
  obtain ⟨hn, c, A, S, H⟩ := F
  obtain ⟨e1, e2⟩ := own_clamp (k := n) hn
  have gd : ∀ i, i < n → ((List.range n).map f).getD i d = f i := fun i hi => by
    rw [List.getD_eq_getElem?_getD, List.getElem?_map, List.getElem?_range hi]; rfl
  refine ⟨c.cls, c, A, rfl, by rw [S, e1], e2, fun i hi => ?_, fun i hi => ?_⟩
  · rw [S] at hi; rw [gd i hi]; exact (H i hi).1
  · rw [S] at hi; rw [gd i hi]; exact (H i hi).2


def own_behind (a v b w : Int64) : Int32 := if (if b = a then v else 0) < w then 1 else 0
theorem own_lat1 (p : Int32) : ¬ nar .char ((p &&& (255 : Int32)).toUInt32.toUInt16.toUInt32.toInt32) < 0 ∧ ¬ (255 : Int32) < nar .char ((p &&& (255 : Int32)).toUInt32.toUInt16.toUInt32.toInt32) := by
  rw [show nar .char ((p &&& (255 : Int32)).toUInt32.toUInt16.toUInt32.toInt32) = p &&& 255 from by simp only [nar, i2c_mask]]
  obtain ⟨n, hn, e⟩ : ∃ n : Nat, n ≤ 255 ∧ (p &&& (255 : Int32)) = Int32.ofNat n := own_mask p 255
  rw [e]
  refine ⟨(own_clamp (k := n) (by omega)).2, fun q => ?_⟩
  have h2 := (own_ltN (a := 255) (b := n) (by decide) (by omega)).mp q
  omega
theorem own_lat2 (p q : Int32) : ∀ c ∈ [nar .char ((p &&& (255 : Int32)).toUInt32.toUInt16.toUInt32.toInt32), nar .char ((q &&& (255 : Int32)).toUInt32.toUInt16.toUInt32.toInt32)], ¬ c < 0 ∧ ¬ (255 : Int32) < c := by
  intro c hc
  simp only [List.mem_cons, List.not_mem_nil, or_false] at hc
  rcases hc with rfl | rfl
  · exact own_lat1 p
  · exact own_lat1 q
theorem d8_0 : decode jdk_30_method_1_code 0 = .ok (.aload_n 0, 1) := by decide +kernel
theorem d8_1 : decode jdk_30_method_1_code 1 = .ok (.invokespecial 1, 3) := by decide +kernel
theorem d8_4 : decode jdk_30_method_1_code 4 = .ok (.return_, 1) := by decide +kernel
theorem pn_8 : plainName "java/lang/Record" = true := by first | (simp [plainName, overriddenIn]; done) | decide +kernel
def Q_rm8 (Z : State) (o : Addr) (h0 : Heap) (n0 : Nat) (v : Option Value) (h : Heap) (L : List Loc) : Prop := v = none ∧ Fr n0 L ∧ h = h0
set_option maxRecDepth 65536 in
set_option maxHeartbeats 40000000 in
theorem rm8 (l : Launch) (Z : State) (a0 : Array Value) (hw : ∀ d ∈ tables_1, d.before a0 Z = true) (ws : List Jvm.Cond) (o : Addr) (h0 : Heap) (n0 : Nat) (Z0 : n0 ≤ h0.size)  :
    own_Met l Z h0 (⟨"java/lang/Record", "<init>", "()V"⟩ : MethodName) jdk_30_method_1_code 1 none ws ({ frames := 1, cells := 0, slots := 0, locals := 12 } : Room) #[(.ref o)] (Q_rm8 Z o h0 n0) := by
  refine own_enter (plainFor_of_name pn_8) ?_
  intro p e s m below meth c T0 X0 hx hby hml hret hlk hown hnm hZ e0
  have N0 := Fr.nil n0
  rw [show entryFrame m #[(.ref o)] 1 = (mkF m 0 #[.val (.ref o)] []) from by first | (simp [entryFrame, mkF, argsToLocals, Value.category]; done) | rfl]
  refine own_Go.of (S' := (T0.setTop (mkF m 1 #[.val (.ref o)] [(.ref o)]))) (fun t kt => ?_) ?_
  · show Steps p.tables e below (T0.setTop (mkF m 0 #[.val (.ref o)] [])) _
    refine XS.aloadN X0.here hx rfl (own_hb hby d8_0) rfl rfl ?_
    exact kt
  obtain ⟨T1, X1, e1, st1⟩ := initO X0 hx hZ hown (hw _ (List.mem_of_getElem? (i := 41) rfl)) (hw _ (List.mem_of_getElem? (i := 12) rfl)) (hw _ (List.mem_of_getElem? (i := 13) rfl)) e0 (g := (mkF m 1 #[.val (.ref o)] [(.ref o)])) rfl (by rw [hml]; rfl) rfl (own_hb hby d8_1) (by decide) (W := 0) (by show 2 * 0 + _ ≤ _; exact Nat.le_of_eq rfl) (by decide)
  refine own_Go.of (S' := (T1.setTop (mkF m 4 #[.val (.ref o)] []))) st1 ?_
  exact own_retV X1 hx hlk hret (own_hb hby d8_4) e1 ⟨rfl, N0, rfl⟩ (by decide) (by decide)
theorem d7_0 : decode prog_32_method_1_code 0 = .ok (.aload_n 0, 1) := by decide +kernel
theorem d7_1 : decode prog_32_method_1_code 1 = .ok (.invokespecial 1, 3) := by decide +kernel
theorem d7_4 : decode prog_32_method_1_code 4 = .ok (.aload_n 0, 1) := by decide +kernel
theorem d7_5 : decode prog_32_method_1_code 5 = .ok (.aload_n 1, 1) := by decide +kernel
theorem d7_6 : decode prog_32_method_1_code 6 = .ok (.putfield 7, 3) := by decide +kernel
theorem d7_9 : decode prog_32_method_1_code 9 = .ok (.aload_n 0, 1) := by decide +kernel
theorem d7_10 : decode prog_32_method_1_code 10 = .ok (.lload_n 2, 1) := by decide +kernel
theorem d7_11 : decode prog_32_method_1_code 11 = .ok (.putfield 13, 3) := by decide +kernel
theorem d7_14 : decode prog_32_method_1_code 14 = .ok (.aload_n 0, 1) := by decide +kernel
theorem d7_15 : decode prog_32_method_1_code 15 = .ok (.lload 4, 2) := by decide +kernel
theorem d7_17 : decode prog_32_method_1_code 17 = .ok (.putfield 17, 3) := by decide +kernel
theorem d7_20 : decode prog_32_method_1_code 20 = .ok (.return_, 1) := by decide +kernel
theorem pn_7 : plainName "com/example/hearsay/hearsay/community/Stamp" = true := by first | (simp [plainName, overriddenIn]; done) | decide +kernel
theorem pd_0 : parseMethodDescriptor "()V" = some ⟨[], none⟩ := by decide +kernel
def Q_rm7 (Z : State) (o : Addr) (r : Addr) (q1 : Int64) (q2 : Int64) (u1 : Value) (u2 : Value) (u3 : Value) (h0 : Heap) (n0 : Nat) (v : Option Value) (h : Heap) (L : List Loc) : Prop := v = none ∧ Fr n0 L ∧ Keep h0 h [o] ∧ (Exa Z h o "com/example/hearsay/hearsay/community/Stamp") ∧ (Fld Z h o "com/example/hearsay/hearsay/community/Stamp" "identity" "J" (.long q1)) ∧ (Fld Z h o "com/example/hearsay/hearsay/community/Stamp" "version" "J" (.long q2))
set_option maxRecDepth 65536 in
set_option maxHeartbeats 40000000 in
theorem rm7 (l : Launch) (Z : State) (a0 : Array Value) (hw : ∀ d ∈ tables_1, d.before a0 Z = true) (ws : List Jvm.Cond) (o : Addr) (r : Addr) (q1 : Int64) (q2 : Int64) (u1 : Value) (u2 : Value) (u3 : Value) (h0 : Heap) (n0 : Nat) (Z0 : n0 ≤ h0.size) (pr0 : Exa Z h0 o "com/example/hearsay/hearsay/community/Stamp") (pr1 : Fld Z h0 o "com/example/hearsay/hearsay/community/Stamp" "name" "Ljava/lang/String;" u1) (pr2 : Fld Z h0 o "com/example/hearsay/hearsay/community/Stamp" "identity" "J" u2) (pr3 : Fld Z h0 o "com/example/hearsay/hearsay/community/Stamp" "version" "J" u3) (pr4 : n0 ≤ o) :
    own_Met l Z h0 (⟨"com/example/hearsay/hearsay/community/Stamp", "<init>", "(Ljava/lang/String;JJ)V"⟩ : MethodName) prog_32_method_1_code 6 none ws ({ frames := 2, cells := 0, slots := 0, locals := 24 } : Room) #[(.ref o), (.ref r), (.long q1), (.long q2)] (Q_rm7 Z o r q1 q2 u1 u2 u3 h0 n0) := by
  refine own_enter (plainFor_of_name pn_7) ?_
  intro p e s m below meth c T0 X0 hx hby hml hret hlk hown hnm hZ e0
  have N0 := Fr.nil n0
  have kp0 : Keep h0 h0 [o] := Keep.refl h0 _
  rw [show entryFrame m #[(.ref o), (.ref r), (.long q1), (.long q2)] 6 = (mkF m 0 #[.val (.ref o), .val (.ref r), .val (.long q1), .second, .val (.long q2), .second] []) from by first | (simp [entryFrame, mkF, argsToLocals, Value.category]; done) | rfl]
  refine own_Go.of (S' := (T0.setTop (mkF m 1 #[.val (.ref o), .val (.ref r), .val (.long q1), .second, .val (.long q2), .second] [(.ref o)]))) (fun t kt => ?_) ?_
  · show Steps p.tables e below (T0.setTop (mkF m 0 #[.val (.ref o), .val (.ref r), .val (.long q1), .second, .val (.long q2), .second] [])) _
    refine XS.aloadN X0.here hx rfl (own_hb hby d7_0) rfl rfl ?_
    exact kt
  obtain ⟨_, _, ⟨T2, L2, k2, n2⟩, -, X2, ⟨Lc2, hQ2, l2, y2, z2⟩, st2⟩ := X0.specialBack hx (y := (⟨"java/lang/Record", "<init>", "()V"⟩ : MethodName)) rfl hown (mvT hZ (hw _ (List.mem_of_getElem? (i := 36) rfl))) (mvT hZ (hw _ (List.mem_of_getElem? (i := 37) rfl))) (mvT hZ (hw _ (List.mem_of_getElem? (i := 40) rfl))) (by decide) (backOf (W := 0) (rm8 l Z a0 hw [] o h0 n0 Z0 ) hZ (hw _ (List.mem_of_getElem? (i := 40) rfl)) (hw _ (List.mem_of_getElem? (i := 39) rfl)) (by decide) (by decide)) (g := (mkF m 1 #[.val (.ref o), .val (.ref r), .val (.long q1), .second, .val (.long q2), .second] [(.ref o)])) rfl (by rw [hml]; rfl) (Steps.refl _) (a := o) (argsL := []) (rest := []) (lenOf pd_0 rfl) rfl (by show 2 * 0 + _ ≤ _; exact Nat.le_of_eq rfl) (own_hb hby d7_1) (fun _ _ => ⟨rfl, e0, (by decide : 0 + 0 ≤ _), (by decide : 0 + 0 ≤ _)⟩)
  dsimp only [Pt.U, Pt.locs, Pt.cells, Pt.slots] at X2 l2 y2 z2 st2 hQ2
  subst l2 y2 z2
  obtain ⟨rfl, N2q, hh2⟩ := hQ2
  have N2 := Fr.app N0 N2q
  refine own_Go.of (S' := (T2.setTop (mkF m 4 #[.val (.ref o), .val (.ref r), .val (.long q1), .second, .val (.long q2), .second] []))) (fun t kt => st2.trans kt) ?_
  refine own_Go.of (S' := (T2.setTop (mkF m 6 #[.val (.ref o), .val (.ref r), .val (.long q1), .second, .val (.long q2), .second] [(.ref r), (.ref o)]))) (fun t kt => ?_) ?_
  · show Steps p.tables e below (T2.setTop (mkF m 4 #[.val (.ref o), .val (.ref r), .val (.long q1), .second, .val (.long q2), .second] [])) _
    refine XS.aloadN X2.here hx rfl (own_hb hby d7_4) rfl rfl ?_
    show Steps p.tables e below (T2.setTop (mkF m 5 #[.val (.ref o), .val (.ref r), .val (.long q1), .second, .val (.long q2), .second] [(.ref o)])) _
    refine XS.aloadN X2.here hx rfl (own_hb hby d7_5) rfl rfl ?_
    exact kt
  obtain ⟨T3, h3, X3, e3, W3, st3⟩ := putF X2 hx hZ hown (host := "") (Or.inl (hw _ (List.mem_of_getElem? (i := 42) rfl))) Via.refl hh2 pr1 pr0 (Or.inr ⟨(hw _ (List.mem_of_getElem? (i := 43) rfl)), rfl, hnm⟩) (hw _ (List.mem_of_getElem? (i := 31) rfl)) (ty := (.object "java/lang/String")) (by decide) rfl rfl (g := (mkF m 6 #[.val (.ref o), .val (.ref r), .val (.long q1), .second, .val (.long q2), .second] [(.ref r), (.ref o)])) rfl rfl (own_hb hby d7_6)
  refine own_Go.of (S' := (T3.setTop (mkF m 9 #[.val (.ref o), .val (.ref r), .val (.long q1), .second, .val (.long q2), .second] []))) st3 ?_
  have f4 : Exa Z h3 o "com/example/hearsay/hearsay/community/Stamp" := pr0.wr W3
  have f5 : Fld Z h3 o "com/example/hearsay/hearsay/community/Stamp" "identity" "J" u2 := pr2.other W3 (Or.inr (slot_ne (Or.inr (hw _ (List.mem_of_getElem? (i := 45) rfl))) (Or.inr (hw _ (List.mem_of_getElem? (i := 43) rfl))) (by decide) (t := .long) (t' := (.object "java/lang/String")) (by decide) (by decide)))
  have f6 : Fld Z h3 o "com/example/hearsay/hearsay/community/Stamp" "version" "J" u3 := pr3.other W3 (Or.inr (slot_ne (Or.inr (hw _ (List.mem_of_getElem? (i := 47) rfl))) (Or.inr (hw _ (List.mem_of_getElem? (i := 43) rfl))) (by decide) (t := .long) (t' := (.object "java/lang/String")) (by decide) (by decide)))
  have z7 : n0 ≤ h3.size := Nat.le_trans Z0 (Keep.of_wr W3).1
  have kp8 : Keep h0 h3 [o] := kp0.wr W3 (Or.inl (List.mem_of_getElem? (i := 0) rfl))
  have f9 : Fld Z h3 o "com/example/hearsay/hearsay/community/Stamp" "name" "Ljava/lang/String;" (.ref r) := pr1.same W3
  have N3 := Fr.snoc X3 N2 pr4
  refine own_Go.of (S' := (T3.setTop (mkF m 11 #[.val (.ref o), .val (.ref r), .val (.long q1), .second, .val (.long q2), .second] [(.long q1), (.ref o)]))) (fun t kt => ?_) ?_
  · show Steps p.tables e below (T3.setTop (mkF m 9 #[.val (.ref o), .val (.ref r), .val (.long q1), .second, .val (.long q2), .second] [])) _
    refine XS.aloadN X3.here hx rfl (own_hb hby d7_9) rfl rfl ?_
    show Steps p.tables e below (T3.setTop (mkF m 10 #[.val (.ref o), .val (.ref r), .val (.long q1), .second, .val (.long q2), .second] [(.ref o)])) _
    refine XS.lloadN X3.here hx rfl (own_hb hby d7_10) rfl ?_
    exact kt
  obtain ⟨T10, h10, X10, e10, W10, st10⟩ := putF X3 hx hZ hown (host := "") (Or.inl (hw _ (List.mem_of_getElem? (i := 44) rfl))) Via.refl e3 f5 f4 (Or.inr ⟨(hw _ (List.mem_of_getElem? (i := 45) rfl)), rfl, hnm⟩) (hw _ (List.mem_of_getElem? (i := 31) rfl)) (ty := .long) (by decide) rfl rfl (g := (mkF m 11 #[.val (.ref o), .val (.ref r), .val (.long q1), .second, .val (.long q2), .second] [(.long q1), (.ref o)])) rfl rfl (own_hb hby d7_11)
  refine own_Go.of (S' := (T10.setTop (mkF m 14 #[.val (.ref o), .val (.ref r), .val (.long q1), .second, .val (.long q2), .second] []))) st10 ?_
  have f11 : Exa Z h10 o "com/example/hearsay/hearsay/community/Stamp" := f4.wr W10
  have f12 : Fld Z h10 o "com/example/hearsay/hearsay/community/Stamp" "name" "Ljava/lang/String;" (.ref r) := f9.other W10 (Or.inr (slot_ne (Or.inr (hw _ (List.mem_of_getElem? (i := 43) rfl))) (Or.inr (hw _ (List.mem_of_getElem? (i := 45) rfl))) (by decide) (t := (.object "java/lang/String")) (t' := .long) (by decide) (by decide)))
  have f13 : Fld Z h10 o "com/example/hearsay/hearsay/community/Stamp" "version" "J" u3 := f6.other W10 (Or.inr (slot_ne (Or.inr (hw _ (List.mem_of_getElem? (i := 47) rfl))) (Or.inr (hw _ (List.mem_of_getElem? (i := 45) rfl))) (by decide) (t := .long) (t' := .long) (by decide) (by decide)))
  have z14 : n0 ≤ h10.size := Nat.le_trans z7 (Keep.of_wr W10).1
  have kp15 : Keep h0 h10 [o] := kp8.wr W10 (Or.inl (List.mem_of_getElem? (i := 0) rfl))
  have f16 : Fld Z h10 o "com/example/hearsay/hearsay/community/Stamp" "identity" "J" (.long q1) := f5.same W10
  have N10 := Fr.snoc X10 N3 pr4
  refine own_Go.of (S' := (T10.setTop (mkF m 17 #[.val (.ref o), .val (.ref r), .val (.long q1), .second, .val (.long q2), .second] [(.long q2), (.ref o)]))) (fun t kt => ?_) ?_
  · show Steps p.tables e below (T10.setTop (mkF m 14 #[.val (.ref o), .val (.ref r), .val (.long q1), .second, .val (.long q2), .second] [])) _
    refine XS.aloadN X10.here hx rfl (own_hb hby d7_14) rfl rfl ?_
    show Steps p.tables e below (T10.setTop (mkF m 15 #[.val (.ref o), .val (.ref r), .val (.long q1), .second, .val (.long q2), .second] [(.ref o)])) _
    refine XS.lload X10.here hx rfl (own_hb hby d7_15) rfl ?_
    exact kt
  obtain ⟨T17, h17, X17, e17, W17, st17⟩ := putF X10 hx hZ hown (host := "") (Or.inl (hw _ (List.mem_of_getElem? (i := 46) rfl))) Via.refl e10 f13 f11 (Or.inr ⟨(hw _ (List.mem_of_getElem? (i := 47) rfl)), rfl, hnm⟩) (hw _ (List.mem_of_getElem? (i := 31) rfl)) (ty := .long) (by decide) rfl rfl (g := (mkF m 17 #[.val (.ref o), .val (.ref r), .val (.long q1), .second, .val (.long q2), .second] [(.long q2), (.ref o)])) rfl rfl (own_hb hby d7_17)
  refine own_Go.of (S' := (T17.setTop (mkF m 20 #[.val (.ref o), .val (.ref r), .val (.long q1), .second, .val (.long q2), .second] []))) st17 ?_
  have f18 : Exa Z h17 o "com/example/hearsay/hearsay/community/Stamp" := f11.wr W17
  have f19 : Fld Z h17 o "com/example/hearsay/hearsay/community/Stamp" "name" "Ljava/lang/String;" (.ref r) := f12.other W17 (Or.inr (slot_ne (Or.inr (hw _ (List.mem_of_getElem? (i := 43) rfl))) (Or.inr (hw _ (List.mem_of_getElem? (i := 47) rfl))) (by decide) (t := (.object "java/lang/String")) (t' := .long) (by decide) (by decide)))
  have f20 : Fld Z h17 o "com/example/hearsay/hearsay/community/Stamp" "identity" "J" (.long q1) := f16.other W17 (Or.inr (slot_ne (Or.inr (hw _ (List.mem_of_getElem? (i := 45) rfl))) (Or.inr (hw _ (List.mem_of_getElem? (i := 47) rfl))) (by decide) (t := .long) (t' := .long) (by decide) (by decide)))
  have z21 : n0 ≤ h17.size := Nat.le_trans z14 (Keep.of_wr W17).1
  have kp22 : Keep h0 h17 [o] := kp15.wr W17 (Or.inl (List.mem_of_getElem? (i := 0) rfl))
  have f23 : Fld Z h17 o "com/example/hearsay/hearsay/community/Stamp" "version" "J" (.long q2) := f13.same W17
  have N17 := Fr.snoc X17 N10 pr4
  exact own_retV X17 hx hlk hret (own_hb hby d7_20) e17 ⟨rfl, N17, kp22, f18, f20, f23⟩ (by decide) (by decide)
theorem d9_0 : decode prog_32_method_4_code 0 = .ok (.aload_n 1, 1) := by decide +kernel
theorem d9_1 : decode prog_32_method_4_code 1 = .ok (.getfield 17, 3) := by decide +kernel
theorem d9_4 : decode prog_32_method_4_code 4 = .ok (.aload_n 1, 1) := by decide +kernel
theorem d9_5 : decode prog_32_method_4_code 5 = .ok (.getfield 13, 3) := by decide +kernel
theorem d9_8 : decode prog_32_method_4_code 8 = .ok (.aload_n 0, 1) := by decide +kernel
theorem d9_9 : decode prog_32_method_4_code 9 = .ok (.getfield 13, 3) := by decide +kernel
theorem d9_12 : decode prog_32_method_4_code 12 = .ok (.lcmp, 1) := by decide +kernel
theorem d9_13 : decode prog_32_method_4_code 13 = .ok (.ifCond .ne 10, 3) := by decide +kernel
theorem d9_16 : decode prog_32_method_4_code 16 = .ok (.aload_n 0, 1) := by decide +kernel
theorem d9_17 : decode prog_32_method_4_code 17 = .ok (.getfield 17, 3) := by decide +kernel
theorem d9_20 : decode prog_32_method_4_code 20 = .ok (.goto 4, 3) := by decide +kernel
theorem d9_23 : decode prog_32_method_4_code 23 = .ok (.lconst 0, 1) := by decide +kernel
theorem d9_24 : decode prog_32_method_4_code 24 = .ok (.lcmp, 1) := by decide +kernel
theorem d9_25 : decode prog_32_method_4_code 25 = .ok (.ifCond .le 7, 3) := by decide +kernel
theorem d9_28 : decode prog_32_method_4_code 28 = .ok (.iconst 1, 1) := by decide +kernel
theorem d9_29 : decode prog_32_method_4_code 29 = .ok (.goto 4, 3) := by decide +kernel
theorem d9_32 : decode prog_32_method_4_code 32 = .ok (.iconst 0, 1) := by decide +kernel
theorem d9_33 : decode prog_32_method_4_code 33 = .ok (.ireturn, 1) := by decide +kernel
theorem pn_9 : plainName "com/example/hearsay/hearsay/community/Stamp" = true := by first | (simp [plainName, overriddenIn]; done) | decide +kernel
def Q_rm9 (Z : State) (o : Addr) (r : Addr) (a : Int64) (vv : Int64) (b : Int64) (ww : Int64) (h0 : Heap) (n0 : Nat) (v : Option Value) (h : Heap) (L : List Loc) : Prop := v = some (.int (own_behind a vv b ww)) ∧ Fr n0 L ∧ h = h0
set_option maxRecDepth 65536 in
set_option maxHeartbeats 40000000 in
theorem rm9 (l : Launch) (Z : State) (a0 : Array Value) (hw : ∀ d ∈ tables_1, d.before a0 Z = true) (ws : List Jvm.Cond) (o : Addr) (r : Addr) (a : Int64) (vv : Int64) (b : Int64) (ww : Int64) (h0 : Heap) (n0 : Nat) (Z0 : n0 ≤ h0.size) (pr0 : Fld Z h0 o "com/example/hearsay/hearsay/community/Stamp" "identity" "J" (.long a)) (pr1 : Fld Z h0 o "com/example/hearsay/hearsay/community/Stamp" "version" "J" (.long vv)) (pr2 : Fld Z h0 r "com/example/hearsay/hearsay/community/Stamp" "identity" "J" (.long b)) (pr3 : Fld Z h0 r "com/example/hearsay/hearsay/community/Stamp" "version" "J" (.long ww)) :
    own_Met l Z h0 (⟨"com/example/hearsay/hearsay/community/Stamp", "isBehind", "(Lcom/example/hearsay/hearsay/community/Stamp;)Z"⟩ : MethodName) prog_32_method_4_code 2 (some .boolean) ws ({ frames := 0, cells := 0, slots := 0, locals := 0 } : Room) #[(.ref o), (.ref r)] (Q_rm9 Z o r a vv b ww h0 n0) := by
  refine own_enter (plainFor_of_name pn_9) ?_
  intro p e s m below meth c T0 X0 hx hby hml hret hlk hown hnm hZ e0
  have N0 := Fr.nil n0
  rw [show entryFrame m #[(.ref o), (.ref r)] 2 = (mkF m 0 #[.val (.ref o), .val (.ref r)] []) from by first | (simp [entryFrame, mkF, argsToLocals, Value.category]; done) | rfl]
  refine own_Go.of (S' := (T0.setTop (mkF m 1 #[.val (.ref o), .val (.ref r)] [(.ref r)]))) (fun t kt => ?_) ?_
  · show Steps p.tables e below (T0.setTop (mkF m 0 #[.val (.ref o), .val (.ref r)] [])) _
    refine XS.aloadN X0.here hx rfl (own_hb hby d9_0) rfl rfl ?_
    exact kt
  obtain ⟨T24, X24, e24, st24⟩ := getF X0 hx hZ hown (host := "") (Or.inl (hw _ (List.mem_of_getElem? (i := 46) rfl))) Via.refl e0 pr3 (g := (mkF m 1 #[.val (.ref o), .val (.ref r)] [(.ref r)])) rfl rfl (own_hb hby d9_1)
  refine own_Go.of (S' := (T24.setTop (mkF m 4 #[.val (.ref o), .val (.ref r)] [(.long ww)]))) st24 ?_
  refine own_Go.of (S' := (T24.setTop (mkF m 5 #[.val (.ref o), .val (.ref r)] [(.ref r), (.long ww)]))) (fun t kt => ?_) ?_
  · show Steps p.tables e below (T24.setTop (mkF m 4 #[.val (.ref o), .val (.ref r)] [(.long ww)])) _
    refine XS.aloadN X24.here hx rfl (own_hb hby d9_4) rfl rfl ?_
    exact kt
  obtain ⟨T25, X25, e25, st25⟩ := getF X24 hx hZ hown (host := "") (Or.inl (hw _ (List.mem_of_getElem? (i := 44) rfl))) Via.refl e24 pr2 (g := (mkF m 5 #[.val (.ref o), .val (.ref r)] [(.ref r), (.long ww)])) rfl rfl (own_hb hby d9_5)
  refine own_Go.of (S' := (T25.setTop (mkF m 8 #[.val (.ref o), .val (.ref r)] [(.long b), (.long ww)]))) st25 ?_
  refine own_Go.of (S' := (T25.setTop (mkF m 9 #[.val (.ref o), .val (.ref r)] [(.ref o), (.long b), (.long ww)]))) (fun t kt => ?_) ?_
  · show Steps p.tables e below (T25.setTop (mkF m 8 #[.val (.ref o), .val (.ref r)] [(.long b), (.long ww)])) _
    refine XS.aloadN X25.here hx rfl (own_hb hby d9_8) rfl rfl ?_
    exact kt
  obtain ⟨T26, X26, e26, st26⟩ := getF X25 hx hZ hown (host := "") (Or.inl (hw _ (List.mem_of_getElem? (i := 44) rfl))) Via.refl e25 pr0 (g := (mkF m 9 #[.val (.ref o), .val (.ref r)] [(.ref o), (.long b), (.long ww)])) rfl rfl (own_hb hby d9_9)
  refine own_Go.of (S' := (T26.setTop (mkF m 12 #[.val (.ref o), .val (.ref r)] [(.long a), (.long b), (.long ww)]))) st26 ?_
  refine own_Go.of (S' := (T26.setTop (mkF m 13 #[.val (.ref o), .val (.ref r)] [(.int (lcmpW b a)), (.long ww)]))) (fun t kt => ?_) ?_
  · show Steps p.tables e below (T26.setTop (mkF m 12 #[.val (.ref o), .val (.ref r)] [(.long a), (.long b), (.long ww)])) _
    refine XS.lcmp X26.here hx rfl (own_hb hby d9_12) rfl ?_
    exact kt
  by_cases hc13_27 : b = a
  · skip
    refine own_Go.of (S' := (T26.setTop (mkF m 17 #[.val (.ref o), .val (.ref r)] [(.ref o), (.long ww)]))) (fun t kt => ?_) ?_
    · show Steps p.tables e below (T26.setTop (mkF m 13 #[.val (.ref o), .val (.ref r)] [(.int (lcmpW b a)), (.long ww)])) _
      refine XS.ifNo X26.here hx rfl (own_hb hby d9_13) rfl ((if0 _ _).trans (teq ((lw_eq _ _).mpr hc13_27)).2) ?_
      show Steps p.tables e below (T26.setTop (mkF m 16 #[.val (.ref o), .val (.ref r)] [(.long ww)])) _
      refine XS.aloadN X26.here hx rfl (own_hb hby d9_16) rfl rfl ?_
      exact kt
    obtain ⟨T28, X28, e28, st28⟩ := getF X26 hx hZ hown (host := "") (Or.inl (hw _ (List.mem_of_getElem? (i := 46) rfl))) Via.refl e26 pr1 (g := (mkF m 17 #[.val (.ref o), .val (.ref r)] [(.ref o), (.long ww)])) rfl rfl (own_hb hby d9_17)
    refine own_Go.of (S' := (T28.setTop (mkF m 20 #[.val (.ref o), .val (.ref r)] [(.long vv), (.long ww)]))) st28 ?_
    refine own_Go.of (S' := (T28.setTop (mkF m 25 #[.val (.ref o), .val (.ref r)] [(.int (lcmpW ww vv))]))) (fun t kt => ?_) ?_
    · show Steps p.tables e below (T28.setTop (mkF m 20 #[.val (.ref o), .val (.ref r)] [(.long vv), (.long ww)])) _
      refine XS.goto X28.here hx rfl (pc0 := 20) (pc' := 24) rfl (own_hb hby d9_20) (by decide) (by decide) ?_
      show Steps p.tables e below (T28.setTop (mkF m 24 #[.val (.ref o), .val (.ref r)] [(.long vv), (.long ww)])) _
      refine XS.lcmp X28.here hx rfl (own_hb hby d9_24) rfl ?_
      exact kt
    by_cases hc25_29 : vv < ww
    · skip
      refine own_Go.of (S' := (T28.setTop (mkF m 33 #[.val (.ref o), .val (.ref r)] [(.int (1 : Int32))]))) (fun t kt => ?_) ?_
      · show Steps p.tables e below (T28.setTop (mkF m 25 #[.val (.ref o), .val (.ref r)] [(.int (lcmpW ww vv))])) _
        refine XS.ifNo X28.here hx rfl (own_hb hby d9_25) rfl ((if0 _ _).trans (tlt ((lw_gt _ _).mpr hc25_29)).2.2.2) ?_
        show Steps p.tables e below (T28.setTop (mkF m 28 #[.val (.ref o), .val (.ref r)] [])) _
        refine XS.iconst X28.here hx rfl (own_hb hby d9_28) ?_
        show Steps p.tables e below (T28.setTop (mkF m 29 #[.val (.ref o), .val (.ref r)] [(.int (1 : Int32))])) _
        refine XS.goto X28.here hx rfl (pc0 := 29) (pc' := 33) rfl (own_hb hby d9_29) (by decide) (by decide) ?_
        exact kt
      exact own_retN X28 hx hlk (t := .boolean) hret (by simp) (own_hb hby d9_33) e28 ⟨by simp only [own_behind, hc13_27, hc25_29, if_true, if_false]; rfl, N0, rfl⟩ (by decide) (by decide)
    · skip
      refine own_Go.of (S' := (T28.setTop (mkF m 33 #[.val (.ref o), .val (.ref r)] [(.int (0 : Int32))]))) (fun t kt => ?_) ?_
      · show Steps p.tables e below (T28.setTop (mkF m 25 #[.val (.ref o), .val (.ref r)] [(.int (lcmpW ww vv))])) _
        refine XS.ifYes X28.here hx rfl (pc0 := 25) (pc' := 32) rfl (own_hb hby d9_25) rfl ((if0 _ _).trans (flt (fun q => hc25_29 ((lw_gt _ _).mp q))).2.2.2) (by decide) (by decide) ?_
        show Steps p.tables e below (T28.setTop (mkF m 32 #[.val (.ref o), .val (.ref r)] [])) _
        refine XS.iconst X28.here hx rfl (own_hb hby d9_32) ?_
        exact kt
      exact own_retN X28 hx hlk (t := .boolean) hret (by simp) (own_hb hby d9_33) e28 ⟨by simp only [own_behind, hc13_27, hc25_29, if_true, if_false]; rfl, N0, rfl⟩ (by decide) (by decide)
  · skip
    refine own_Go.of (S' := (T26.setTop (mkF m 25 #[.val (.ref o), .val (.ref r)] [(.int (lcmpW ww (0 : Int64)))]))) (fun t kt => ?_) ?_
    · show Steps p.tables e below (T26.setTop (mkF m 13 #[.val (.ref o), .val (.ref r)] [(.int (lcmpW b a)), (.long ww)])) _
      refine XS.ifYes X26.here hx rfl (pc0 := 13) (pc' := 23) rfl (own_hb hby d9_13) rfl ((if0 _ _).trans (feq (fun q => hc13_27 ((lw_eq _ _).mp q))).2) (by decide) (by decide) ?_
      show Steps p.tables e below (T26.setTop (mkF m 23 #[.val (.ref o), .val (.ref r)] [(.long ww)])) _
      refine XS.lconst X26.here hx rfl (own_hb hby d9_23) ?_
      show Steps p.tables e below (T26.setTop (mkF m 24 #[.val (.ref o), .val (.ref r)] [(.long (0 : Int64)), (.long ww)])) _
      refine XS.lcmp X26.here hx rfl (own_hb hby d9_24) rfl ?_
      exact kt
    by_cases hc25_30 : (0 : Int64) < ww
    · skip
      refine own_Go.of (S' := (T26.setTop (mkF m 33 #[.val (.ref o), .val (.ref r)] [(.int (1 : Int32))]))) (fun t kt => ?_) ?_
      · show Steps p.tables e below (T26.setTop (mkF m 25 #[.val (.ref o), .val (.ref r)] [(.int (lcmpW ww (0 : Int64)))])) _
        refine XS.ifNo X26.here hx rfl (own_hb hby d9_25) rfl ((if0 _ _).trans (tlt ((lw_gt _ _).mpr hc25_30)).2.2.2) ?_
        show Steps p.tables e below (T26.setTop (mkF m 28 #[.val (.ref o), .val (.ref r)] [])) _
        refine XS.iconst X26.here hx rfl (own_hb hby d9_28) ?_
        show Steps p.tables e below (T26.setTop (mkF m 29 #[.val (.ref o), .val (.ref r)] [(.int (1 : Int32))])) _
        refine XS.goto X26.here hx rfl (pc0 := 29) (pc' := 33) rfl (own_hb hby d9_29) (by decide) (by decide) ?_
        exact kt
      exact own_retN X26 hx hlk (t := .boolean) hret (by simp) (own_hb hby d9_33) e26 ⟨by simp only [own_behind, hc13_27, hc25_30, if_true, if_false]; rfl, N0, rfl⟩ (by decide) (by decide)
    · skip
      refine own_Go.of (S' := (T26.setTop (mkF m 33 #[.val (.ref o), .val (.ref r)] [(.int (0 : Int32))]))) (fun t kt => ?_) ?_
      · show Steps p.tables e below (T26.setTop (mkF m 25 #[.val (.ref o), .val (.ref r)] [(.int (lcmpW ww (0 : Int64)))])) _
        refine XS.ifYes X26.here hx rfl (pc0 := 25) (pc' := 32) rfl (own_hb hby d9_25) rfl ((if0 _ _).trans (flt (fun q => hc25_30 ((lw_gt _ _).mp q))).2.2.2) (by decide) (by decide) ?_
        show Steps p.tables e below (T26.setTop (mkF m 32 #[.val (.ref o), .val (.ref r)] [])) _
        refine XS.iconst X26.here hx rfl (own_hb hby d9_32) ?_
        exact kt
      exact own_retN X26 hx hlk (t := .boolean) hret (by simp) (own_hb hby d9_33) e26 ⟨by simp only [own_behind, hc13_27, hc25_30, if_true, if_false]; rfl, N0, rfl⟩ (by decide) (by decide)
theorem pn_0 : plainName "com/example/hearsay/hearsay/community/StampIsBehindPinLaw" = true := by first | (simp [plainName, overriddenIn]; done) | decide +kernel
def Q_rm0 (Z : State) (p0 : Int64) (p1 : Int64) (p2 : Int64) (p3 : Int64) (p4 : Int32) (p5 : Int32) (zc : Int32) (h0 : Heap) (n0 : Nat) (v : Option Value) (h : Heap) (L : List Loc) : Prop := v = some (.int (1 : Int32)) ∧ Fr n0 L
theorem pd_1 : parseMethodDescriptor "([C)V" = some ⟨[(.array .char)], none⟩ := by decide +kernel
theorem pd_2 : parseMethodDescriptor "(Ljava/lang/String;JJ)V" = some ⟨[(.object "java/lang/String"), .long, .long], none⟩ := by decide +kernel
theorem pd_3 : parseMethodDescriptor "(Lcom/example/hearsay/hearsay/community/Stamp;)Z" = some ⟨[(.object "com/example/hearsay/hearsay/community/Stamp")], some .boolean⟩ := by decide +kernel
set_option maxRecDepth 65536 in
set_option maxHeartbeats 40000000 in
theorem rm0 (l : Launch) (Z : State) (a0 : Array Value) (hw : ∀ d ∈ tables_1, d.before a0 Z = true) (ws : List Jvm.Cond) (p0 : Int64) (p1 : Int64) (p2 : Int64) (p3 : Int64) (p4 : Int32) (p5 : Int32) (zc : Int32) (h0 : Heap) (n0 : Nat) (Z0 : n0 ≤ h0.size) (pr0 : Old Z n0 h0) (hS : Sta Z Z.heap "java/lang/String" "COMPACT_STRINGS" "Z" (.int zc)) (hz : ¬ zc = 0) :
    own_Met l Z h0 x code maxLocals ret ws room_1 #[(.long p0), (.long p1), (.long p2), (.long p3), (.int p4), (.int p5)] (Q_rm0 Z p0 p1 p2 p3 p4 p5 zc h0 n0) := by
  refine own_enter (plainFor_of_name pn_0) ?_
  intro p e s m below meth c T0 X0 hx hby hml hret hlk hown hnm hZ e0
  have N0 := Fr.nil n0
  rw [show entryFrame m #[(.long p0), (.long p1), (.long p2), (.long p3), (.int p4), (.int p5)] maxLocals = (mkF m 0 #[.val (.long p0), .second, .val (.long p1), .second, .val (.long p2), .second, .val (.long p3), .second, .val (.int p4), .val (.int p5), .unset, .unset, .unset, .unset, .unset, .unset, .unset, .unset, .unset, .unset, .unset, .unset, .unset, .unset, .unset, .unset] []) from by first | (simp [entryFrame, mkF, argsToLocals, Value.category, maxLocals]; done) | rfl]
  have hws : ∀ d ∈ StrChars.Road.words, d.before a0 Z = true := fun d hd => hw d ((by decide +kernel : ∀ d ∈ StrChars.Road.words, d ∈ tables_1) d hd)
  refine own_Go.of (S' := (T0.setTop (mkF m 4 #[.val (.long p0), .second, .val (.long p1), .second, .val (.long p2), .second, .val (.long p3), .second, .val (.int p4), .val (.int p5), .unset, .unset, .unset, .unset, .unset, .unset, .unset, .unset, .unset, .unset, .unset, .unset, .unset, .unset, .unset, .unset] [(.int (p4 &&& (1 : Int32)))]))) (fun t kt => ?_) ?_
  · show Steps p.tables e below (T0.setTop (mkF m 0 #[.val (.long p0), .second, .val (.long p1), .second, .val (.long p2), .second, .val (.long p3), .second, .val (.int p4), .val (.int p5), .unset, .unset, .unset, .unset, .unset, .unset, .unset, .unset, .unset, .unset, .unset, .unset, .unset, .unset, .unset, .unset] [])) _
    refine XS.iload X0.here hx rfl (own_hb hby at_0) rfl ?_
    show Steps p.tables e below (T0.setTop (mkF m 2 #[.val (.long p0), .second, .val (.long p1), .second, .val (.long p2), .second, .val (.long p3), .second, .val (.int p4), .val (.int p5), .unset, .unset, .unset, .unset, .unset, .unset, .unset, .unset, .unset, .unset, .unset, .unset, .unset, .unset, .unset, .unset] [(.int p4)])) _
    refine XS.iconst X0.here hx rfl (own_hb hby at_2) ?_
    show Steps p.tables e below (T0.setTop (mkF m 3 #[.val (.long p0), .second, .val (.long p1), .second, .val (.long p2), .second, .val (.long p3), .second, .val (.int p4), .val (.int p5), .unset, .unset, .unset, .unset, .unset, .unset, .unset, .unset, .unset, .unset, .unset, .unset, .unset, .unset, .unset, .unset] [(.int (1 : Int32)), (.int p4)])) _
    refine XS.iand X0.here hx rfl (own_hb hby at_3) rfl ?_
    exact kt
  obtain ⟨v32, hd34, st33⟩ : ∃ v32 : Int32, ((v32 = (0 : Int32) ∧ (p4 &&& (1 : Int32)) = (0 : Int32)) ∨ (v32 = (1 : Int32) ∧ ¬ ((p4 &&& (1 : Int32)) = (0 : Int32)))) ∧ ∀ t, Steps p.tables e below (T0.setTop (mkF m 12 #[.val (.long p0), .second, .val (.long p1), .second, .val (.long p2), .second, .val (.long p3), .second, .val (.int p4), .val (.int p5), .unset, .unset, .unset, .unset, .unset, .unset, .unset, .unset, .unset, .unset, .unset, .unset, .unset, .unset, .unset, .unset] [(.int v32)])) t → Steps p.tables e below (T0.setTop (mkF m 4 #[.val (.long p0), .second, .val (.long p1), .second, .val (.long p2), .second, .val (.long p3), .second, .val (.int p4), .val (.int p5), .unset, .unset, .unset, .unset, .unset, .unset, .unset, .unset, .unset, .unset, .unset, .unset, .unset, .unset, .unset, .unset] [(.int (p4 &&& (1 : Int32)))])) t := by
    by_cases hc4_31 : (p4 &&& (1 : Int32)) = (0 : Int32)
    · skip
      refine ⟨(0 : Int32), (Or.inl (⟨rfl, hc4_31⟩)), fun t kt => ?_⟩
      show Steps p.tables e below (T0.setTop (mkF m 4 #[.val (.long p0), .second, .val (.long p1), .second, .val (.long p2), .second, .val (.long p3), .second, .val (.int p4), .val (.int p5), .unset, .unset, .unset, .unset, .unset, .unset, .unset, .unset, .unset, .unset, .unset, .unset, .unset, .unset, .unset, .unset] [(.int (p4 &&& (1 : Int32)))])) _
      refine XS.ifYes X0.here hx rfl (pc0 := 4) (pc' := 11) rfl (own_hb hby at_4) rfl ((if0 _ _).trans (teq hc4_31).1) (by decide) (by decide) ?_
      show Steps p.tables e below (T0.setTop (mkF m 11 #[.val (.long p0), .second, .val (.long p1), .second, .val (.long p2), .second, .val (.long p3), .second, .val (.int p4), .val (.int p5), .unset, .unset, .unset, .unset, .unset, .unset, .unset, .unset, .unset, .unset, .unset, .unset, .unset, .unset, .unset, .unset] [])) _
      refine XS.iconst X0.here hx rfl (own_hb hby at_11) ?_
      exact kt
    · skip
      refine ⟨(1 : Int32), (Or.inr (⟨rfl, hc4_31⟩)), fun t kt => ?_⟩
      show Steps p.tables e below (T0.setTop (mkF m 4 #[.val (.long p0), .second, .val (.long p1), .second, .val (.long p2), .second, .val (.long p3), .second, .val (.int p4), .val (.int p5), .unset, .unset, .unset, .unset, .unset, .unset, .unset, .unset, .unset, .unset, .unset, .unset, .unset, .unset, .unset, .unset] [(.int (p4 &&& (1 : Int32)))])) _
      refine XS.ifNo X0.here hx rfl (own_hb hby at_4) rfl ((if0 _ _).trans (feq hc4_31).1) ?_
      show Steps p.tables e below (T0.setTop (mkF m 7 #[.val (.long p0), .second, .val (.long p1), .second, .val (.long p2), .second, .val (.long p3), .second, .val (.int p4), .val (.int p5), .unset, .unset, .unset, .unset, .unset, .unset, .unset, .unset, .unset, .unset, .unset, .unset, .unset, .unset, .unset, .unset] [])) _
      refine XS.iconst X0.here hx rfl (own_hb hby at_7) ?_
      show Steps p.tables e below (T0.setTop (mkF m 8 #[.val (.long p0), .second, .val (.long p1), .second, .val (.long p2), .second, .val (.long p3), .second, .val (.int p4), .val (.int p5), .unset, .unset, .unset, .unset, .unset, .unset, .unset, .unset, .unset, .unset, .unset, .unset, .unset, .unset, .unset, .unset] [(.int (1 : Int32))])) _
      refine XS.goto X0.here hx rfl (pc0 := 8) (pc' := 12) rfl (own_hb hby at_8) (by decide) (by decide) ?_
      exact kt
  refine own_Go.of (S' := (T0.setTop (mkF m 12 #[.val (.long p0), .second, .val (.long p1), .second, .val (.long p2), .second, .val (.long p3), .second, .val (.int p4), .val (.int p5), .unset, .unset, .unset, .unset, .unset, .unset, .unset, .unset, .unset, .unset, .unset, .unset, .unset, .unset, .unset, .unset] [(.int v32)]))) st33 ?_
  refine own_Go.of (S' := (T0.setTop (mkF m 16 #[.val (.long p0), .second, .val (.long p1), .second, .val (.long p2), .second, .val (.long p3), .second, .val (.int p4), .val (.int p5), .val (.int v32), .unset, .unset, .unset, .unset, .unset, .unset, .unset, .unset, .unset, .unset, .unset, .unset, .unset, .unset, .unset] [(.int v32)]))) (fun t kt => ?_) ?_
  · show Steps p.tables e below (T0.setTop (mkF m 12 #[.val (.long p0), .second, .val (.long p1), .second, .val (.long p2), .second, .val (.long p3), .second, .val (.int p4), .val (.int p5), .unset, .unset, .unset, .unset, .unset, .unset, .unset, .unset, .unset, .unset, .unset, .unset, .unset, .unset, .unset, .unset] [(.int v32)])) _
    refine XS.istore X0.here hx rfl (own_hb hby at_12) rfl (l' := #[.val (.long p0), .second, .val (.long p1), .second, .val (.long p2), .second, .val (.long p3), .second, .val (.int p4), .val (.int p5), .val (.int v32), .unset, .unset, .unset, .unset, .unset, .unset, .unset, .unset, .unset, .unset, .unset, .unset, .unset, .unset, .unset]) rfl ?_
    show Steps p.tables e below (T0.setTop (mkF m 14 #[.val (.long p0), .second, .val (.long p1), .second, .val (.long p2), .second, .val (.long p3), .second, .val (.int p4), .val (.int p5), .val (.int v32), .unset, .unset, .unset, .unset, .unset, .unset, .unset, .unset, .unset, .unset, .unset, .unset, .unset, .unset, .unset] [])) _
    refine XS.iload X0.here hx rfl (own_hb hby at_14) rfl ?_
    exact kt
  obtain ⟨v36, hd38, st37⟩ : ∃ v36 : Int64, ((v36 = p1 ∧ v32 = (0 : Int32)) ∨ (v36 = p0 ∧ ¬ (v32 = (0 : Int32)))) ∧ ∀ t, Steps p.tables e below (T0.setTop (mkF m 24 #[.val (.long p0), .second, .val (.long p1), .second, .val (.long p2), .second, .val (.long p3), .second, .val (.int p4), .val (.int p5), .val (.int v32), .unset, .unset, .unset, .unset, .unset, .unset, .unset, .unset, .unset, .unset, .unset, .unset, .unset, .unset, .unset] [(.long v36)])) t → Steps p.tables e below (T0.setTop (mkF m 16 #[.val (.long p0), .second, .val (.long p1), .second, .val (.long p2), .second, .val (.long p3), .second, .val (.int p4), .val (.int p5), .val (.int v32), .unset, .unset, .unset, .unset, .unset, .unset, .unset, .unset, .unset, .unset, .unset, .unset, .unset, .unset, .unset] [(.int v32)])) t := by
    by_cases hc16_35 : v32 = (0 : Int32)
    · skip
      refine ⟨p1, (Or.inl (⟨rfl, hc16_35⟩)), fun t kt => ?_⟩
      show Steps p.tables e below (T0.setTop (mkF m 16 #[.val (.long p0), .second, .val (.long p1), .second, .val (.long p2), .second, .val (.long p3), .second, .val (.int p4), .val (.int p5), .val (.int v32), .unset, .unset, .unset, .unset, .unset, .unset, .unset, .unset, .unset, .unset, .unset, .unset, .unset, .unset, .unset] [(.int v32)])) _
      refine XS.ifYes X0.here hx rfl (pc0 := 16) (pc' := 23) rfl (own_hb hby at_16) rfl ((if0 _ _).trans (teq hc16_35).1) (by decide) (by decide) ?_
      show Steps p.tables e below (T0.setTop (mkF m 23 #[.val (.long p0), .second, .val (.long p1), .second, .val (.long p2), .second, .val (.long p3), .second, .val (.int p4), .val (.int p5), .val (.int v32), .unset, .unset, .unset, .unset, .unset, .unset, .unset, .unset, .unset, .unset, .unset, .unset, .unset, .unset, .unset] [])) _
      refine XS.lloadN X0.here hx rfl (own_hb hby at_23) rfl ?_
      exact kt
    · skip
      refine ⟨p0, (Or.inr (⟨rfl, hc16_35⟩)), fun t kt => ?_⟩
      show Steps p.tables e below (T0.setTop (mkF m 16 #[.val (.long p0), .second, .val (.long p1), .second, .val (.long p2), .second, .val (.long p3), .second, .val (.int p4), .val (.int p5), .val (.int v32), .unset, .unset, .unset, .unset, .unset, .unset, .unset, .unset, .unset, .unset, .unset, .unset, .unset, .unset, .unset] [(.int v32)])) _
      refine XS.ifNo X0.here hx rfl (own_hb hby at_16) rfl ((if0 _ _).trans (feq hc16_35).1) ?_
      show Steps p.tables e below (T0.setTop (mkF m 19 #[.val (.long p0), .second, .val (.long p1), .second, .val (.long p2), .second, .val (.long p3), .second, .val (.int p4), .val (.int p5), .val (.int v32), .unset, .unset, .unset, .unset, .unset, .unset, .unset, .unset, .unset, .unset, .unset, .unset, .unset, .unset, .unset] [])) _
      refine XS.lloadN X0.here hx rfl (own_hb hby at_19) rfl ?_
      show Steps p.tables e below (T0.setTop (mkF m 20 #[.val (.long p0), .second, .val (.long p1), .second, .val (.long p2), .second, .val (.long p3), .second, .val (.int p4), .val (.int p5), .val (.int v32), .unset, .unset, .unset, .unset, .unset, .unset, .unset, .unset, .unset, .unset, .unset, .unset, .unset, .unset, .unset] [(.long p0)])) _
      refine XS.goto X0.here hx rfl (pc0 := 20) (pc' := 24) rfl (own_hb hby at_20) (by decide) (by decide) ?_
      exact kt
  refine own_Go.of (S' := (T0.setTop (mkF m 24 #[.val (.long p0), .second, .val (.long p1), .second, .val (.long p2), .second, .val (.long p3), .second, .val (.int p4), .val (.int p5), .val (.int v32), .unset, .unset, .unset, .unset, .unset, .unset, .unset, .unset, .unset, .unset, .unset, .unset, .unset, .unset, .unset] [(.long v36)]))) st37 ?_
  refine own_Go.of (S' := (T0.setTop (mkF m 41 #[.val (.long p0), .second, .val (.long p1), .second, .val (.long p2), .second, .val (.long p3), .second, .val (.int p4), .val (.int p5), .val (.int v32), .val (.long v36), .second, .val (.long ((((p4 >>> ((2 : Int32) &&& 31)) &&& (3 : Int32)) - (1 : Int32)).toInt64)), .second, .unset, .unset, .unset, .unset, .unset, .unset, .unset, .unset, .unset, .unset, .unset] [(.int (p4 &&& (2 : Int32)))]))) (fun t kt => ?_) ?_
  · show Steps p.tables e below (T0.setTop (mkF m 24 #[.val (.long p0), .second, .val (.long p1), .second, .val (.long p2), .second, .val (.long p3), .second, .val (.int p4), .val (.int p5), .val (.int v32), .unset, .unset, .unset, .unset, .unset, .unset, .unset, .unset, .unset, .unset, .unset, .unset, .unset, .unset, .unset] [(.long v36)])) _
    refine XS.lstore X0.here hx rfl (own_hb hby at_24) rfl (l' := #[.val (.long p0), .second, .val (.long p1), .second, .val (.long p2), .second, .val (.long p3), .second, .val (.int p4), .val (.int p5), .val (.int v32), .val (.long v36), .second, .unset, .unset, .unset, .unset, .unset, .unset, .unset, .unset, .unset, .unset, .unset, .unset, .unset]) rfl ?_
    show Steps p.tables e below (T0.setTop (mkF m 26 #[.val (.long p0), .second, .val (.long p1), .second, .val (.long p2), .second, .val (.long p3), .second, .val (.int p4), .val (.int p5), .val (.int v32), .val (.long v36), .second, .unset, .unset, .unset, .unset, .unset, .unset, .unset, .unset, .unset, .unset, .unset, .unset, .unset] [])) _
    refine XS.iload X0.here hx rfl (own_hb hby at_26) rfl ?_
    show Steps p.tables e below (T0.setTop (mkF m 28 #[.val (.long p0), .second, .val (.long p1), .second, .val (.long p2), .second, .val (.long p3), .second, .val (.int p4), .val (.int p5), .val (.int v32), .val (.long v36), .second, .unset, .unset, .unset, .unset, .unset, .unset, .unset, .unset, .unset, .unset, .unset, .unset, .unset] [(.int p4)])) _
    refine XS.iconst X0.here hx rfl (own_hb hby at_28) ?_
    show Steps p.tables e below (T0.setTop (mkF m 29 #[.val (.long p0), .second, .val (.long p1), .second, .val (.long p2), .second, .val (.long p3), .second, .val (.int p4), .val (.int p5), .val (.int v32), .val (.long v36), .second, .unset, .unset, .unset, .unset, .unset, .unset, .unset, .unset, .unset, .unset, .unset, .unset, .unset] [(.int (2 : Int32)), (.int p4)])) _
    refine XS.ishr X0.here hx rfl (own_hb hby at_29) rfl ?_
    show Steps p.tables e below (T0.setTop (mkF m 30 #[.val (.long p0), .second, .val (.long p1), .second, .val (.long p2), .second, .val (.long p3), .second, .val (.int p4), .val (.int p5), .val (.int v32), .val (.long v36), .second, .unset, .unset, .unset, .unset, .unset, .unset, .unset, .unset, .unset, .unset, .unset, .unset, .unset] [(.int (p4 >>> ((2 : Int32) &&& 31)))])) _
    refine XS.iconst X0.here hx rfl (own_hb hby at_30) ?_
    show Steps p.tables e below (T0.setTop (mkF m 31 #[.val (.long p0), .second, .val (.long p1), .second, .val (.long p2), .second, .val (.long p3), .second, .val (.int p4), .val (.int p5), .val (.int v32), .val (.long v36), .second, .unset, .unset, .unset, .unset, .unset, .unset, .unset, .unset, .unset, .unset, .unset, .unset, .unset] [(.int (3 : Int32)), (.int (p4 >>> ((2 : Int32) &&& 31)))])) _
    refine XS.iand X0.here hx rfl (own_hb hby at_31) rfl ?_
    show Steps p.tables e below (T0.setTop (mkF m 32 #[.val (.long p0), .second, .val (.long p1), .second, .val (.long p2), .second, .val (.long p3), .second, .val (.int p4), .val (.int p5), .val (.int v32), .val (.long v36), .second, .unset, .unset, .unset, .unset, .unset, .unset, .unset, .unset, .unset, .unset, .unset, .unset, .unset] [(.int ((p4 >>> ((2 : Int32) &&& 31)) &&& (3 : Int32)))])) _
    refine XS.iconst X0.here hx rfl (own_hb hby at_32) ?_
    show Steps p.tables e below (T0.setTop (mkF m 33 #[.val (.long p0), .second, .val (.long p1), .second, .val (.long p2), .second, .val (.long p3), .second, .val (.int p4), .val (.int p5), .val (.int v32), .val (.long v36), .second, .unset, .unset, .unset, .unset, .unset, .unset, .unset, .unset, .unset, .unset, .unset, .unset, .unset] [(.int (1 : Int32)), (.int ((p4 >>> ((2 : Int32) &&& 31)) &&& (3 : Int32)))])) _
    refine XS.isub X0.here hx rfl (own_hb hby at_33) rfl ?_
    show Steps p.tables e below (T0.setTop (mkF m 34 #[.val (.long p0), .second, .val (.long p1), .second, .val (.long p2), .second, .val (.long p3), .second, .val (.int p4), .val (.int p5), .val (.int v32), .val (.long v36), .second, .unset, .unset, .unset, .unset, .unset, .unset, .unset, .unset, .unset, .unset, .unset, .unset, .unset] [(.int (((p4 >>> ((2 : Int32) &&& 31)) &&& (3 : Int32)) - (1 : Int32)))])) _
    refine XS.i2l X0.here hx rfl (own_hb hby at_34) rfl ?_
    show Steps p.tables e below (T0.setTop (mkF m 35 #[.val (.long p0), .second, .val (.long p1), .second, .val (.long p2), .second, .val (.long p3), .second, .val (.int p4), .val (.int p5), .val (.int v32), .val (.long v36), .second, .unset, .unset, .unset, .unset, .unset, .unset, .unset, .unset, .unset, .unset, .unset, .unset, .unset] [(.long ((((p4 >>> ((2 : Int32) &&& 31)) &&& (3 : Int32)) - (1 : Int32)).toInt64))])) _
    refine XS.lstore X0.here hx rfl (own_hb hby at_35) rfl (l' := #[.val (.long p0), .second, .val (.long p1), .second, .val (.long p2), .second, .val (.long p3), .second, .val (.int p4), .val (.int p5), .val (.int v32), .val (.long v36), .second, .val (.long ((((p4 >>> ((2 : Int32) &&& 31)) &&& (3 : Int32)) - (1 : Int32)).toInt64)), .second, .unset, .unset, .unset, .unset, .unset, .unset, .unset, .unset, .unset, .unset, .unset]) rfl ?_
    show Steps p.tables e below (T0.setTop (mkF m 37 #[.val (.long p0), .second, .val (.long p1), .second, .val (.long p2), .second, .val (.long p3), .second, .val (.int p4), .val (.int p5), .val (.int v32), .val (.long v36), .second, .val (.long ((((p4 >>> ((2 : Int32) &&& 31)) &&& (3 : Int32)) - (1 : Int32)).toInt64)), .second, .unset, .unset, .unset, .unset, .unset, .unset, .unset, .unset, .unset, .unset, .unset] [])) _
    refine XS.iload X0.here hx rfl (own_hb hby at_37) rfl ?_
    show Steps p.tables e below (T0.setTop (mkF m 39 #[.val (.long p0), .second, .val (.long p1), .second, .val (.long p2), .second, .val (.long p3), .second, .val (.int p4), .val (.int p5), .val (.int v32), .val (.long v36), .second, .val (.long ((((p4 >>> ((2 : Int32) &&& 31)) &&& (3 : Int32)) - (1 : Int32)).toInt64)), .second, .unset, .unset, .unset, .unset, .unset, .unset, .unset, .unset, .unset, .unset, .unset] [(.int p4)])) _
    refine XS.iconst X0.here hx rfl (own_hb hby at_39) ?_
    show Steps p.tables e below (T0.setTop (mkF m 40 #[.val (.long p0), .second, .val (.long p1), .second, .val (.long p2), .second, .val (.long p3), .second, .val (.int p4), .val (.int p5), .val (.int v32), .val (.long v36), .second, .val (.long ((((p4 >>> ((2 : Int32) &&& 31)) &&& (3 : Int32)) - (1 : Int32)).toInt64)), .second, .unset, .unset, .unset, .unset, .unset, .unset, .unset, .unset, .unset, .unset, .unset] [(.int (2 : Int32)), (.int p4)])) _
    refine XS.iand X0.here hx rfl (own_hb hby at_40) rfl ?_
    exact kt
  obtain ⟨v41, hd43, st42⟩ : ∃ v41 : Int64, ((v41 = p3 ∧ (p4 &&& (2 : Int32)) = (0 : Int32) ∧ (p4 &&& (16 : Int32)) = (0 : Int32)) ∨ (v41 = ((((p4 >>> ((2 : Int32) &&& 31)) &&& (3 : Int32)) - (1 : Int32)).toInt64) ∧ (p4 &&& (2 : Int32)) = (0 : Int32) ∧ ¬ ((p4 &&& (16 : Int32)) = (0 : Int32))) ∨ (v41 = (p2 + ((((p4 >>> ((2 : Int32) &&& 31)) &&& (3 : Int32)) - (1 : Int32)).toInt64)) ∧ ¬ ((p4 &&& (2 : Int32)) = (0 : Int32)))) ∧ ∀ t, Steps p.tables e below (T0.setTop (mkF m 73 #[.val (.long p0), .second, .val (.long p1), .second, .val (.long p2), .second, .val (.long p3), .second, .val (.int p4), .val (.int p5), .val (.int v32), .val (.long v36), .second, .val (.long ((((p4 >>> ((2 : Int32) &&& 31)) &&& (3 : Int32)) - (1 : Int32)).toInt64)), .second, .val (.long v41), .second, .unset, .unset, .unset, .unset, .unset, .unset, .unset, .unset, .unset] [])) t → Steps p.tables e below (T0.setTop (mkF m 41 #[.val (.long p0), .second, .val (.long p1), .second, .val (.long p2), .second, .val (.long p3), .second, .val (.int p4), .val (.int p5), .val (.int v32), .val (.long v36), .second, .val (.long ((((p4 >>> ((2 : Int32) &&& 31)) &&& (3 : Int32)) - (1 : Int32)).toInt64)), .second, .unset, .unset, .unset, .unset, .unset, .unset, .unset, .unset, .unset, .unset, .unset] [(.int (p4 &&& (2 : Int32)))])) t := by
    by_cases hc41_39 : (p4 &&& (2 : Int32)) = (0 : Int32)
    · skip
      by_cases hc59_40 : (p4 &&& (16 : Int32)) = (0 : Int32)
      · skip
        refine ⟨p3, (Or.inl (⟨rfl, hc41_39, hc59_40⟩)), fun t kt => ?_⟩
        show Steps p.tables e below (T0.setTop (mkF m 41 #[.val (.long p0), .second, .val (.long p1), .second, .val (.long p2), .second, .val (.long p3), .second, .val (.int p4), .val (.int p5), .val (.int v32), .val (.long v36), .second, .val (.long ((((p4 >>> ((2 : Int32) &&& 31)) &&& (3 : Int32)) - (1 : Int32)).toInt64)), .second, .unset, .unset, .unset, .unset, .unset, .unset, .unset, .unset, .unset, .unset, .unset] [(.int (p4 &&& (2 : Int32)))])) _
        refine XS.ifYes X0.here hx rfl (pc0 := 41) (pc' := 54) rfl (own_hb hby at_41) rfl ((if0 _ _).trans (teq hc41_39).1) (by decide) (by decide) ?_
        show Steps p.tables e below (T0.setTop (mkF m 54 #[.val (.long p0), .second, .val (.long p1), .second, .val (.long p2), .second, .val (.long p3), .second, .val (.int p4), .val (.int p5), .val (.int v32), .val (.long v36), .second, .val (.long ((((p4 >>> ((2 : Int32) &&& 31)) &&& (3 : Int32)) - (1 : Int32)).toInt64)), .second, .unset, .unset, .unset, .unset, .unset, .unset, .unset, .unset, .unset, .unset, .unset] [])) _
        refine XS.iload X0.here hx rfl (own_hb hby at_54) rfl ?_
        show Steps p.tables e below (T0.setTop (mkF m 56 #[.val (.long p0), .second, .val (.long p1), .second, .val (.long p2), .second, .val (.long p3), .second, .val (.int p4), .val (.int p5), .val (.int v32), .val (.long v36), .second, .val (.long ((((p4 >>> ((2 : Int32) &&& 31)) &&& (3 : Int32)) - (1 : Int32)).toInt64)), .second, .unset, .unset, .unset, .unset, .unset, .unset, .unset, .unset, .unset, .unset, .unset] [(.int p4)])) _
        refine XS.bipush X0.here hx rfl (own_hb hby at_56) ?_
        show Steps p.tables e below (T0.setTop (mkF m 58 #[.val (.long p0), .second, .val (.long p1), .second, .val (.long p2), .second, .val (.long p3), .second, .val (.int p4), .val (.int p5), .val (.int v32), .val (.long v36), .second, .val (.long ((((p4 >>> ((2 : Int32) &&& 31)) &&& (3 : Int32)) - (1 : Int32)).toInt64)), .second, .unset, .unset, .unset, .unset, .unset, .unset, .unset, .unset, .unset, .unset, .unset] [(.int (16 : Int32)), (.int p4)])) _
        refine XS.iand X0.here hx rfl (own_hb hby at_58) rfl ?_
        show Steps p.tables e below (T0.setTop (mkF m 59 #[.val (.long p0), .second, .val (.long p1), .second, .val (.long p2), .second, .val (.long p3), .second, .val (.int p4), .val (.int p5), .val (.int v32), .val (.long v36), .second, .val (.long ((((p4 >>> ((2 : Int32) &&& 31)) &&& (3 : Int32)) - (1 : Int32)).toInt64)), .second, .unset, .unset, .unset, .unset, .unset, .unset, .unset, .unset, .unset, .unset, .unset] [(.int (p4 &&& (16 : Int32)))])) _
        refine XS.ifYes X0.here hx rfl (pc0 := 59) (pc' := 69) rfl (own_hb hby at_59) rfl ((if0 _ _).trans (teq hc59_40).1) (by decide) (by decide) ?_
        show Steps p.tables e below (T0.setTop (mkF m 69 #[.val (.long p0), .second, .val (.long p1), .second, .val (.long p2), .second, .val (.long p3), .second, .val (.int p4), .val (.int p5), .val (.int v32), .val (.long v36), .second, .val (.long ((((p4 >>> ((2 : Int32) &&& 31)) &&& (3 : Int32)) - (1 : Int32)).toInt64)), .second, .unset, .unset, .unset, .unset, .unset, .unset, .unset, .unset, .unset, .unset, .unset] [])) _
        refine XS.lload X0.here hx rfl (own_hb hby at_69) rfl ?_
        show Steps p.tables e below (T0.setTop (mkF m 71 #[.val (.long p0), .second, .val (.long p1), .second, .val (.long p2), .second, .val (.long p3), .second, .val (.int p4), .val (.int p5), .val (.int v32), .val (.long v36), .second, .val (.long ((((p4 >>> ((2 : Int32) &&& 31)) &&& (3 : Int32)) - (1 : Int32)).toInt64)), .second, .unset, .unset, .unset, .unset, .unset, .unset, .unset, .unset, .unset, .unset, .unset] [(.long p3)])) _
        refine XS.lstore X0.here hx rfl (own_hb hby at_71) rfl (l' := #[.val (.long p0), .second, .val (.long p1), .second, .val (.long p2), .second, .val (.long p3), .second, .val (.int p4), .val (.int p5), .val (.int v32), .val (.long v36), .second, .val (.long ((((p4 >>> ((2 : Int32) &&& 31)) &&& (3 : Int32)) - (1 : Int32)).toInt64)), .second, .val (.long p3), .second, .unset, .unset, .unset, .unset, .unset, .unset, .unset, .unset, .unset]) rfl ?_
        exact kt
      · skip
        refine ⟨((((p4 >>> ((2 : Int32) &&& 31)) &&& (3 : Int32)) - (1 : Int32)).toInt64), (Or.inr (Or.inl (⟨rfl, hc41_39, hc59_40⟩))), fun t kt => ?_⟩
        show Steps p.tables e below (T0.setTop (mkF m 41 #[.val (.long p0), .second, .val (.long p1), .second, .val (.long p2), .second, .val (.long p3), .second, .val (.int p4), .val (.int p5), .val (.int v32), .val (.long v36), .second, .val (.long ((((p4 >>> ((2 : Int32) &&& 31)) &&& (3 : Int32)) - (1 : Int32)).toInt64)), .second, .unset, .unset, .unset, .unset, .unset, .unset, .unset, .unset, .unset, .unset, .unset] [(.int (p4 &&& (2 : Int32)))])) _
        refine XS.ifYes X0.here hx rfl (pc0 := 41) (pc' := 54) rfl (own_hb hby at_41) rfl ((if0 _ _).trans (teq hc41_39).1) (by decide) (by decide) ?_
        show Steps p.tables e below (T0.setTop (mkF m 54 #[.val (.long p0), .second, .val (.long p1), .second, .val (.long p2), .second, .val (.long p3), .second, .val (.int p4), .val (.int p5), .val (.int v32), .val (.long v36), .second, .val (.long ((((p4 >>> ((2 : Int32) &&& 31)) &&& (3 : Int32)) - (1 : Int32)).toInt64)), .second, .unset, .unset, .unset, .unset, .unset, .unset, .unset, .unset, .unset, .unset, .unset] [])) _
        refine XS.iload X0.here hx rfl (own_hb hby at_54) rfl ?_
        show Steps p.tables e below (T0.setTop (mkF m 56 #[.val (.long p0), .second, .val (.long p1), .second, .val (.long p2), .second, .val (.long p3), .second, .val (.int p4), .val (.int p5), .val (.int v32), .val (.long v36), .second, .val (.long ((((p4 >>> ((2 : Int32) &&& 31)) &&& (3 : Int32)) - (1 : Int32)).toInt64)), .second, .unset, .unset, .unset, .unset, .unset, .unset, .unset, .unset, .unset, .unset, .unset] [(.int p4)])) _
        refine XS.bipush X0.here hx rfl (own_hb hby at_56) ?_
        show Steps p.tables e below (T0.setTop (mkF m 58 #[.val (.long p0), .second, .val (.long p1), .second, .val (.long p2), .second, .val (.long p3), .second, .val (.int p4), .val (.int p5), .val (.int v32), .val (.long v36), .second, .val (.long ((((p4 >>> ((2 : Int32) &&& 31)) &&& (3 : Int32)) - (1 : Int32)).toInt64)), .second, .unset, .unset, .unset, .unset, .unset, .unset, .unset, .unset, .unset, .unset, .unset] [(.int (16 : Int32)), (.int p4)])) _
        refine XS.iand X0.here hx rfl (own_hb hby at_58) rfl ?_
        show Steps p.tables e below (T0.setTop (mkF m 59 #[.val (.long p0), .second, .val (.long p1), .second, .val (.long p2), .second, .val (.long p3), .second, .val (.int p4), .val (.int p5), .val (.int v32), .val (.long v36), .second, .val (.long ((((p4 >>> ((2 : Int32) &&& 31)) &&& (3 : Int32)) - (1 : Int32)).toInt64)), .second, .unset, .unset, .unset, .unset, .unset, .unset, .unset, .unset, .unset, .unset, .unset] [(.int (p4 &&& (16 : Int32)))])) _
        refine XS.ifNo X0.here hx rfl (own_hb hby at_59) rfl ((if0 _ _).trans (feq hc59_40).1) ?_
        show Steps p.tables e below (T0.setTop (mkF m 62 #[.val (.long p0), .second, .val (.long p1), .second, .val (.long p2), .second, .val (.long p3), .second, .val (.int p4), .val (.int p5), .val (.int v32), .val (.long v36), .second, .val (.long ((((p4 >>> ((2 : Int32) &&& 31)) &&& (3 : Int32)) - (1 : Int32)).toInt64)), .second, .unset, .unset, .unset, .unset, .unset, .unset, .unset, .unset, .unset, .unset, .unset] [])) _
        refine XS.lload X0.here hx rfl (own_hb hby at_62) rfl ?_
        show Steps p.tables e below (T0.setTop (mkF m 64 #[.val (.long p0), .second, .val (.long p1), .second, .val (.long p2), .second, .val (.long p3), .second, .val (.int p4), .val (.int p5), .val (.int v32), .val (.long v36), .second, .val (.long ((((p4 >>> ((2 : Int32) &&& 31)) &&& (3 : Int32)) - (1 : Int32)).toInt64)), .second, .unset, .unset, .unset, .unset, .unset, .unset, .unset, .unset, .unset, .unset, .unset] [(.long ((((p4 >>> ((2 : Int32) &&& 31)) &&& (3 : Int32)) - (1 : Int32)).toInt64))])) _
        refine XS.lstore X0.here hx rfl (own_hb hby at_64) rfl (l' := #[.val (.long p0), .second, .val (.long p1), .second, .val (.long p2), .second, .val (.long p3), .second, .val (.int p4), .val (.int p5), .val (.int v32), .val (.long v36), .second, .val (.long ((((p4 >>> ((2 : Int32) &&& 31)) &&& (3 : Int32)) - (1 : Int32)).toInt64)), .second, .val (.long ((((p4 >>> ((2 : Int32) &&& 31)) &&& (3 : Int32)) - (1 : Int32)).toInt64)), .second, .unset, .unset, .unset, .unset, .unset, .unset, .unset, .unset, .unset]) rfl ?_
        show Steps p.tables e below (T0.setTop (mkF m 66 #[.val (.long p0), .second, .val (.long p1), .second, .val (.long p2), .second, .val (.long p3), .second, .val (.int p4), .val (.int p5), .val (.int v32), .val (.long v36), .second, .val (.long ((((p4 >>> ((2 : Int32) &&& 31)) &&& (3 : Int32)) - (1 : Int32)).toInt64)), .second, .val (.long ((((p4 >>> ((2 : Int32) &&& 31)) &&& (3 : Int32)) - (1 : Int32)).toInt64)), .second, .unset, .unset, .unset, .unset, .unset, .unset, .unset, .unset, .unset] [])) _
        refine XS.goto X0.here hx rfl (pc0 := 66) (pc' := 73) rfl (own_hb hby at_66) (by decide) (by decide) ?_
        exact kt
    · skip
      refine ⟨(p2 + ((((p4 >>> ((2 : Int32) &&& 31)) &&& (3 : Int32)) - (1 : Int32)).toInt64)), (Or.inr (Or.inr (⟨rfl, hc41_39⟩))), fun t kt => ?_⟩
      show Steps p.tables e below (T0.setTop (mkF m 41 #[.val (.long p0), .second, .val (.long p1), .second, .val (.long p2), .second, .val (.long p3), .second, .val (.int p4), .val (.int p5), .val (.int v32), .val (.long v36), .second, .val (.long ((((p4 >>> ((2 : Int32) &&& 31)) &&& (3 : Int32)) - (1 : Int32)).toInt64)), .second, .unset, .unset, .unset, .unset, .unset, .unset, .unset, .unset, .unset, .unset, .unset] [(.int (p4 &&& (2 : Int32)))])) _
      refine XS.ifNo X0.here hx rfl (own_hb hby at_41) rfl ((if0 _ _).trans (feq hc41_39).1) ?_
      show Steps p.tables e below (T0.setTop (mkF m 44 #[.val (.long p0), .second, .val (.long p1), .second, .val (.long p2), .second, .val (.long p3), .second, .val (.int p4), .val (.int p5), .val (.int v32), .val (.long v36), .second, .val (.long ((((p4 >>> ((2 : Int32) &&& 31)) &&& (3 : Int32)) - (1 : Int32)).toInt64)), .second, .unset, .unset, .unset, .unset, .unset, .unset, .unset, .unset, .unset, .unset, .unset] [])) _
      refine XS.lload X0.here hx rfl (own_hb hby at_44) rfl ?_
      show Steps p.tables e below (T0.setTop (mkF m 46 #[.val (.long p0), .second, .val (.long p1), .second, .val (.long p2), .second, .val (.long p3), .second, .val (.int p4), .val (.int p5), .val (.int v32), .val (.long v36), .second, .val (.long ((((p4 >>> ((2 : Int32) &&& 31)) &&& (3 : Int32)) - (1 : Int32)).toInt64)), .second, .unset, .unset, .unset, .unset, .unset, .unset, .unset, .unset, .unset, .unset, .unset] [(.long p2)])) _
      refine XS.lload X0.here hx rfl (own_hb hby at_46) rfl ?_
      show Steps p.tables e below (T0.setTop (mkF m 48 #[.val (.long p0), .second, .val (.long p1), .second, .val (.long p2), .second, .val (.long p3), .second, .val (.int p4), .val (.int p5), .val (.int v32), .val (.long v36), .second, .val (.long ((((p4 >>> ((2 : Int32) &&& 31)) &&& (3 : Int32)) - (1 : Int32)).toInt64)), .second, .unset, .unset, .unset, .unset, .unset, .unset, .unset, .unset, .unset, .unset, .unset] [(.long ((((p4 >>> ((2 : Int32) &&& 31)) &&& (3 : Int32)) - (1 : Int32)).toInt64)), (.long p2)])) _
      refine XS.ladd X0.here hx rfl (own_hb hby at_48) rfl ?_
      show Steps p.tables e below (T0.setTop (mkF m 49 #[.val (.long p0), .second, .val (.long p1), .second, .val (.long p2), .second, .val (.long p3), .second, .val (.int p4), .val (.int p5), .val (.int v32), .val (.long v36), .second, .val (.long ((((p4 >>> ((2 : Int32) &&& 31)) &&& (3 : Int32)) - (1 : Int32)).toInt64)), .second, .unset, .unset, .unset, .unset, .unset, .unset, .unset, .unset, .unset, .unset, .unset] [(.long (p2 + ((((p4 >>> ((2 : Int32) &&& 31)) &&& (3 : Int32)) - (1 : Int32)).toInt64)))])) _
      refine XS.lstore X0.here hx rfl (own_hb hby at_49) rfl (l' := #[.val (.long p0), .second, .val (.long p1), .second, .val (.long p2), .second, .val (.long p3), .second, .val (.int p4), .val (.int p5), .val (.int v32), .val (.long v36), .second, .val (.long ((((p4 >>> ((2 : Int32) &&& 31)) &&& (3 : Int32)) - (1 : Int32)).toInt64)), .second, .val (.long (p2 + ((((p4 >>> ((2 : Int32) &&& 31)) &&& (3 : Int32)) - (1 : Int32)).toInt64))), .second, .unset, .unset, .unset, .unset, .unset, .unset, .unset, .unset, .unset]) rfl ?_
      show Steps p.tables e below (T0.setTop (mkF m 51 #[.val (.long p0), .second, .val (.long p1), .second, .val (.long p2), .second, .val (.long p3), .second, .val (.int p4), .val (.int p5), .val (.int v32), .val (.long v36), .second, .val (.long ((((p4 >>> ((2 : Int32) &&& 31)) &&& (3 : Int32)) - (1 : Int32)).toInt64)), .second, .val (.long (p2 + ((((p4 >>> ((2 : Int32) &&& 31)) &&& (3 : Int32)) - (1 : Int32)).toInt64))), .second, .unset, .unset, .unset, .unset, .unset, .unset, .unset, .unset, .unset] [])) _
      refine XS.goto X0.here hx rfl (pc0 := 51) (pc' := 73) rfl (own_hb hby at_51) (by decide) (by decide) ?_
      exact kt
  refine own_Go.of (S' := (T0.setTop (mkF m 73 #[.val (.long p0), .second, .val (.long p1), .second, .val (.long p2), .second, .val (.long p3), .second, .val (.int p4), .val (.int p5), .val (.int v32), .val (.long v36), .second, .val (.long ((((p4 >>> ((2 : Int32) &&& 31)) &&& (3 : Int32)) - (1 : Int32)).toInt64)), .second, .val (.long v41), .second, .unset, .unset, .unset, .unset, .unset, .unset, .unset, .unset, .unset] []))) st42 ?_
  refine own_Go.of (S' := (T0.setTop (mkF m 118 #[.val (.long p0), .second, .val (.long p1), .second, .val (.long p2), .second, .val (.long p3), .second, .val (.int p4), .val (.int p5), .val (.int v32), .val (.long v36), .second, .val (.long ((((p4 >>> ((2 : Int32) &&& 31)) &&& (3 : Int32)) - (1 : Int32)).toInt64)), .second, .val (.long v41), .second, .val (.int ((p5 &&& (255 : Int32)).toUInt32.toUInt16.toUInt32.toInt32)), .val (.int (((p5 >>> ((8 : Int32) &&& 31)) &&& (255 : Int32)).toUInt32.toUInt16.toUInt32.toInt32)), .val (.int (((p5 >>> ((16 : Int32) &&& 31)) &&& (255 : Int32)).toUInt32.toUInt16.toUInt32.toInt32)), .val (.int (((p5 >>> ((24 : Int32) &&& 31)) &&& (255 : Int32)).toUInt32.toUInt16.toUInt32.toInt32)), .unset, .unset, .unset, .unset, .unset] []))) (fun t kt => ?_) ?_
  · show Steps p.tables e below (T0.setTop (mkF m 73 #[.val (.long p0), .second, .val (.long p1), .second, .val (.long p2), .second, .val (.long p3), .second, .val (.int p4), .val (.int p5), .val (.int v32), .val (.long v36), .second, .val (.long ((((p4 >>> ((2 : Int32) &&& 31)) &&& (3 : Int32)) - (1 : Int32)).toInt64)), .second, .val (.long v41), .second, .unset, .unset, .unset, .unset, .unset, .unset, .unset, .unset, .unset] [])) _
    refine XS.iload X0.here hx rfl (own_hb hby at_73) rfl ?_
    show Steps p.tables e below (T0.setTop (mkF m 75 #[.val (.long p0), .second, .val (.long p1), .second, .val (.long p2), .second, .val (.long p3), .second, .val (.int p4), .val (.int p5), .val (.int v32), .val (.long v36), .second, .val (.long ((((p4 >>> ((2 : Int32) &&& 31)) &&& (3 : Int32)) - (1 : Int32)).toInt64)), .second, .val (.long v41), .second, .unset, .unset, .unset, .unset, .unset, .unset, .unset, .unset, .unset] [(.int p5)])) _
    refine XS.sipush X0.here hx rfl (own_hb hby at_75) ?_
    show Steps p.tables e below (T0.setTop (mkF m 78 #[.val (.long p0), .second, .val (.long p1), .second, .val (.long p2), .second, .val (.long p3), .second, .val (.int p4), .val (.int p5), .val (.int v32), .val (.long v36), .second, .val (.long ((((p4 >>> ((2 : Int32) &&& 31)) &&& (3 : Int32)) - (1 : Int32)).toInt64)), .second, .val (.long v41), .second, .unset, .unset, .unset, .unset, .unset, .unset, .unset, .unset, .unset] [(.int (255 : Int32)), (.int p5)])) _
    refine XS.iand X0.here hx rfl (own_hb hby at_78) rfl ?_
    show Steps p.tables e below (T0.setTop (mkF m 79 #[.val (.long p0), .second, .val (.long p1), .second, .val (.long p2), .second, .val (.long p3), .second, .val (.int p4), .val (.int p5), .val (.int v32), .val (.long v36), .second, .val (.long ((((p4 >>> ((2 : Int32) &&& 31)) &&& (3 : Int32)) - (1 : Int32)).toInt64)), .second, .val (.long v41), .second, .unset, .unset, .unset, .unset, .unset, .unset, .unset, .unset, .unset] [(.int (p5 &&& (255 : Int32)))])) _
    refine XS.i2c X0.here hx rfl (own_hb hby at_79) rfl ?_
    show Steps p.tables e below (T0.setTop (mkF m 80 #[.val (.long p0), .second, .val (.long p1), .second, .val (.long p2), .second, .val (.long p3), .second, .val (.int p4), .val (.int p5), .val (.int v32), .val (.long v36), .second, .val (.long ((((p4 >>> ((2 : Int32) &&& 31)) &&& (3 : Int32)) - (1 : Int32)).toInt64)), .second, .val (.long v41), .second, .unset, .unset, .unset, .unset, .unset, .unset, .unset, .unset, .unset] [(.int ((p5 &&& (255 : Int32)).toUInt32.toUInt16.toUInt32.toInt32))])) _
    refine XS.istore X0.here hx rfl (own_hb hby at_80) rfl (l' := #[.val (.long p0), .second, .val (.long p1), .second, .val (.long p2), .second, .val (.long p3), .second, .val (.int p4), .val (.int p5), .val (.int v32), .val (.long v36), .second, .val (.long ((((p4 >>> ((2 : Int32) &&& 31)) &&& (3 : Int32)) - (1 : Int32)).toInt64)), .second, .val (.long v41), .second, .val (.int ((p5 &&& (255 : Int32)).toUInt32.toUInt16.toUInt32.toInt32)), .unset, .unset, .unset, .unset, .unset, .unset, .unset, .unset]) rfl ?_
    show Steps p.tables e below (T0.setTop (mkF m 82 #[.val (.long p0), .second, .val (.long p1), .second, .val (.long p2), .second, .val (.long p3), .second, .val (.int p4), .val (.int p5), .val (.int v32), .val (.long v36), .second, .val (.long ((((p4 >>> ((2 : Int32) &&& 31)) &&& (3 : Int32)) - (1 : Int32)).toInt64)), .second, .val (.long v41), .second, .val (.int ((p5 &&& (255 : Int32)).toUInt32.toUInt16.toUInt32.toInt32)), .unset, .unset, .unset, .unset, .unset, .unset, .unset, .unset] [])) _
    refine XS.iload X0.here hx rfl (own_hb hby at_82) rfl ?_
    show Steps p.tables e below (T0.setTop (mkF m 84 #[.val (.long p0), .second, .val (.long p1), .second, .val (.long p2), .second, .val (.long p3), .second, .val (.int p4), .val (.int p5), .val (.int v32), .val (.long v36), .second, .val (.long ((((p4 >>> ((2 : Int32) &&& 31)) &&& (3 : Int32)) - (1 : Int32)).toInt64)), .second, .val (.long v41), .second, .val (.int ((p5 &&& (255 : Int32)).toUInt32.toUInt16.toUInt32.toInt32)), .unset, .unset, .unset, .unset, .unset, .unset, .unset, .unset] [(.int p5)])) _
    refine XS.bipush X0.here hx rfl (own_hb hby at_84) ?_
    show Steps p.tables e below (T0.setTop (mkF m 86 #[.val (.long p0), .second, .val (.long p1), .second, .val (.long p2), .second, .val (.long p3), .second, .val (.int p4), .val (.int p5), .val (.int v32), .val (.long v36), .second, .val (.long ((((p4 >>> ((2 : Int32) &&& 31)) &&& (3 : Int32)) - (1 : Int32)).toInt64)), .second, .val (.long v41), .second, .val (.int ((p5 &&& (255 : Int32)).toUInt32.toUInt16.toUInt32.toInt32)), .unset, .unset, .unset, .unset, .unset, .unset, .unset, .unset] [(.int (8 : Int32)), (.int p5)])) _
    refine XS.ishr X0.here hx rfl (own_hb hby at_86) rfl ?_
    show Steps p.tables e below (T0.setTop (mkF m 87 #[.val (.long p0), .second, .val (.long p1), .second, .val (.long p2), .second, .val (.long p3), .second, .val (.int p4), .val (.int p5), .val (.int v32), .val (.long v36), .second, .val (.long ((((p4 >>> ((2 : Int32) &&& 31)) &&& (3 : Int32)) - (1 : Int32)).toInt64)), .second, .val (.long v41), .second, .val (.int ((p5 &&& (255 : Int32)).toUInt32.toUInt16.toUInt32.toInt32)), .unset, .unset, .unset, .unset, .unset, .unset, .unset, .unset] [(.int (p5 >>> ((8 : Int32) &&& 31)))])) _
    refine XS.sipush X0.here hx rfl (own_hb hby at_87) ?_
    show Steps p.tables e below (T0.setTop (mkF m 90 #[.val (.long p0), .second, .val (.long p1), .second, .val (.long p2), .second, .val (.long p3), .second, .val (.int p4), .val (.int p5), .val (.int v32), .val (.long v36), .second, .val (.long ((((p4 >>> ((2 : Int32) &&& 31)) &&& (3 : Int32)) - (1 : Int32)).toInt64)), .second, .val (.long v41), .second, .val (.int ((p5 &&& (255 : Int32)).toUInt32.toUInt16.toUInt32.toInt32)), .unset, .unset, .unset, .unset, .unset, .unset, .unset, .unset] [(.int (255 : Int32)), (.int (p5 >>> ((8 : Int32) &&& 31)))])) _
    refine XS.iand X0.here hx rfl (own_hb hby at_90) rfl ?_
    show Steps p.tables e below (T0.setTop (mkF m 91 #[.val (.long p0), .second, .val (.long p1), .second, .val (.long p2), .second, .val (.long p3), .second, .val (.int p4), .val (.int p5), .val (.int v32), .val (.long v36), .second, .val (.long ((((p4 >>> ((2 : Int32) &&& 31)) &&& (3 : Int32)) - (1 : Int32)).toInt64)), .second, .val (.long v41), .second, .val (.int ((p5 &&& (255 : Int32)).toUInt32.toUInt16.toUInt32.toInt32)), .unset, .unset, .unset, .unset, .unset, .unset, .unset, .unset] [(.int ((p5 >>> ((8 : Int32) &&& 31)) &&& (255 : Int32)))])) _
    refine XS.i2c X0.here hx rfl (own_hb hby at_91) rfl ?_
    show Steps p.tables e below (T0.setTop (mkF m 92 #[.val (.long p0), .second, .val (.long p1), .second, .val (.long p2), .second, .val (.long p3), .second, .val (.int p4), .val (.int p5), .val (.int v32), .val (.long v36), .second, .val (.long ((((p4 >>> ((2 : Int32) &&& 31)) &&& (3 : Int32)) - (1 : Int32)).toInt64)), .second, .val (.long v41), .second, .val (.int ((p5 &&& (255 : Int32)).toUInt32.toUInt16.toUInt32.toInt32)), .unset, .unset, .unset, .unset, .unset, .unset, .unset, .unset] [(.int (((p5 >>> ((8 : Int32) &&& 31)) &&& (255 : Int32)).toUInt32.toUInt16.toUInt32.toInt32))])) _
    refine XS.istore X0.here hx rfl (own_hb hby at_92) rfl (l' := #[.val (.long p0), .second, .val (.long p1), .second, .val (.long p2), .second, .val (.long p3), .second, .val (.int p4), .val (.int p5), .val (.int v32), .val (.long v36), .second, .val (.long ((((p4 >>> ((2 : Int32) &&& 31)) &&& (3 : Int32)) - (1 : Int32)).toInt64)), .second, .val (.long v41), .second, .val (.int ((p5 &&& (255 : Int32)).toUInt32.toUInt16.toUInt32.toInt32)), .val (.int (((p5 >>> ((8 : Int32) &&& 31)) &&& (255 : Int32)).toUInt32.toUInt16.toUInt32.toInt32)), .unset, .unset, .unset, .unset, .unset, .unset, .unset]) rfl ?_
    show Steps p.tables e below (T0.setTop (mkF m 94 #[.val (.long p0), .second, .val (.long p1), .second, .val (.long p2), .second, .val (.long p3), .second, .val (.int p4), .val (.int p5), .val (.int v32), .val (.long v36), .second, .val (.long ((((p4 >>> ((2 : Int32) &&& 31)) &&& (3 : Int32)) - (1 : Int32)).toInt64)), .second, .val (.long v41), .second, .val (.int ((p5 &&& (255 : Int32)).toUInt32.toUInt16.toUInt32.toInt32)), .val (.int (((p5 >>> ((8 : Int32) &&& 31)) &&& (255 : Int32)).toUInt32.toUInt16.toUInt32.toInt32)), .unset, .unset, .unset, .unset, .unset, .unset, .unset] [])) _
    refine XS.iload X0.here hx rfl (own_hb hby at_94) rfl ?_
    show Steps p.tables e below (T0.setTop (mkF m 96 #[.val (.long p0), .second, .val (.long p1), .second, .val (.long p2), .second, .val (.long p3), .second, .val (.int p4), .val (.int p5), .val (.int v32), .val (.long v36), .second, .val (.long ((((p4 >>> ((2 : Int32) &&& 31)) &&& (3 : Int32)) - (1 : Int32)).toInt64)), .second, .val (.long v41), .second, .val (.int ((p5 &&& (255 : Int32)).toUInt32.toUInt16.toUInt32.toInt32)), .val (.int (((p5 >>> ((8 : Int32) &&& 31)) &&& (255 : Int32)).toUInt32.toUInt16.toUInt32.toInt32)), .unset, .unset, .unset, .unset, .unset, .unset, .unset] [(.int p5)])) _
    refine XS.bipush X0.here hx rfl (own_hb hby at_96) ?_
    show Steps p.tables e below (T0.setTop (mkF m 98 #[.val (.long p0), .second, .val (.long p1), .second, .val (.long p2), .second, .val (.long p3), .second, .val (.int p4), .val (.int p5), .val (.int v32), .val (.long v36), .second, .val (.long ((((p4 >>> ((2 : Int32) &&& 31)) &&& (3 : Int32)) - (1 : Int32)).toInt64)), .second, .val (.long v41), .second, .val (.int ((p5 &&& (255 : Int32)).toUInt32.toUInt16.toUInt32.toInt32)), .val (.int (((p5 >>> ((8 : Int32) &&& 31)) &&& (255 : Int32)).toUInt32.toUInt16.toUInt32.toInt32)), .unset, .unset, .unset, .unset, .unset, .unset, .unset] [(.int (16 : Int32)), (.int p5)])) _
    refine XS.ishr X0.here hx rfl (own_hb hby at_98) rfl ?_
    show Steps p.tables e below (T0.setTop (mkF m 99 #[.val (.long p0), .second, .val (.long p1), .second, .val (.long p2), .second, .val (.long p3), .second, .val (.int p4), .val (.int p5), .val (.int v32), .val (.long v36), .second, .val (.long ((((p4 >>> ((2 : Int32) &&& 31)) &&& (3 : Int32)) - (1 : Int32)).toInt64)), .second, .val (.long v41), .second, .val (.int ((p5 &&& (255 : Int32)).toUInt32.toUInt16.toUInt32.toInt32)), .val (.int (((p5 >>> ((8 : Int32) &&& 31)) &&& (255 : Int32)).toUInt32.toUInt16.toUInt32.toInt32)), .unset, .unset, .unset, .unset, .unset, .unset, .unset] [(.int (p5 >>> ((16 : Int32) &&& 31)))])) _
    refine XS.sipush X0.here hx rfl (own_hb hby at_99) ?_
    show Steps p.tables e below (T0.setTop (mkF m 102 #[.val (.long p0), .second, .val (.long p1), .second, .val (.long p2), .second, .val (.long p3), .second, .val (.int p4), .val (.int p5), .val (.int v32), .val (.long v36), .second, .val (.long ((((p4 >>> ((2 : Int32) &&& 31)) &&& (3 : Int32)) - (1 : Int32)).toInt64)), .second, .val (.long v41), .second, .val (.int ((p5 &&& (255 : Int32)).toUInt32.toUInt16.toUInt32.toInt32)), .val (.int (((p5 >>> ((8 : Int32) &&& 31)) &&& (255 : Int32)).toUInt32.toUInt16.toUInt32.toInt32)), .unset, .unset, .unset, .unset, .unset, .unset, .unset] [(.int (255 : Int32)), (.int (p5 >>> ((16 : Int32) &&& 31)))])) _
    refine XS.iand X0.here hx rfl (own_hb hby at_102) rfl ?_
    show Steps p.tables e below (T0.setTop (mkF m 103 #[.val (.long p0), .second, .val (.long p1), .second, .val (.long p2), .second, .val (.long p3), .second, .val (.int p4), .val (.int p5), .val (.int v32), .val (.long v36), .second, .val (.long ((((p4 >>> ((2 : Int32) &&& 31)) &&& (3 : Int32)) - (1 : Int32)).toInt64)), .second, .val (.long v41), .second, .val (.int ((p5 &&& (255 : Int32)).toUInt32.toUInt16.toUInt32.toInt32)), .val (.int (((p5 >>> ((8 : Int32) &&& 31)) &&& (255 : Int32)).toUInt32.toUInt16.toUInt32.toInt32)), .unset, .unset, .unset, .unset, .unset, .unset, .unset] [(.int ((p5 >>> ((16 : Int32) &&& 31)) &&& (255 : Int32)))])) _
    refine XS.i2c X0.here hx rfl (own_hb hby at_103) rfl ?_
    show Steps p.tables e below (T0.setTop (mkF m 104 #[.val (.long p0), .second, .val (.long p1), .second, .val (.long p2), .second, .val (.long p3), .second, .val (.int p4), .val (.int p5), .val (.int v32), .val (.long v36), .second, .val (.long ((((p4 >>> ((2 : Int32) &&& 31)) &&& (3 : Int32)) - (1 : Int32)).toInt64)), .second, .val (.long v41), .second, .val (.int ((p5 &&& (255 : Int32)).toUInt32.toUInt16.toUInt32.toInt32)), .val (.int (((p5 >>> ((8 : Int32) &&& 31)) &&& (255 : Int32)).toUInt32.toUInt16.toUInt32.toInt32)), .unset, .unset, .unset, .unset, .unset, .unset, .unset] [(.int (((p5 >>> ((16 : Int32) &&& 31)) &&& (255 : Int32)).toUInt32.toUInt16.toUInt32.toInt32))])) _
    refine XS.istore X0.here hx rfl (own_hb hby at_104) rfl (l' := #[.val (.long p0), .second, .val (.long p1), .second, .val (.long p2), .second, .val (.long p3), .second, .val (.int p4), .val (.int p5), .val (.int v32), .val (.long v36), .second, .val (.long ((((p4 >>> ((2 : Int32) &&& 31)) &&& (3 : Int32)) - (1 : Int32)).toInt64)), .second, .val (.long v41), .second, .val (.int ((p5 &&& (255 : Int32)).toUInt32.toUInt16.toUInt32.toInt32)), .val (.int (((p5 >>> ((8 : Int32) &&& 31)) &&& (255 : Int32)).toUInt32.toUInt16.toUInt32.toInt32)), .val (.int (((p5 >>> ((16 : Int32) &&& 31)) &&& (255 : Int32)).toUInt32.toUInt16.toUInt32.toInt32)), .unset, .unset, .unset, .unset, .unset, .unset]) rfl ?_
    show Steps p.tables e below (T0.setTop (mkF m 106 #[.val (.long p0), .second, .val (.long p1), .second, .val (.long p2), .second, .val (.long p3), .second, .val (.int p4), .val (.int p5), .val (.int v32), .val (.long v36), .second, .val (.long ((((p4 >>> ((2 : Int32) &&& 31)) &&& (3 : Int32)) - (1 : Int32)).toInt64)), .second, .val (.long v41), .second, .val (.int ((p5 &&& (255 : Int32)).toUInt32.toUInt16.toUInt32.toInt32)), .val (.int (((p5 >>> ((8 : Int32) &&& 31)) &&& (255 : Int32)).toUInt32.toUInt16.toUInt32.toInt32)), .val (.int (((p5 >>> ((16 : Int32) &&& 31)) &&& (255 : Int32)).toUInt32.toUInt16.toUInt32.toInt32)), .unset, .unset, .unset, .unset, .unset, .unset] [])) _
    refine XS.iload X0.here hx rfl (own_hb hby at_106) rfl ?_
    show Steps p.tables e below (T0.setTop (mkF m 108 #[.val (.long p0), .second, .val (.long p1), .second, .val (.long p2), .second, .val (.long p3), .second, .val (.int p4), .val (.int p5), .val (.int v32), .val (.long v36), .second, .val (.long ((((p4 >>> ((2 : Int32) &&& 31)) &&& (3 : Int32)) - (1 : Int32)).toInt64)), .second, .val (.long v41), .second, .val (.int ((p5 &&& (255 : Int32)).toUInt32.toUInt16.toUInt32.toInt32)), .val (.int (((p5 >>> ((8 : Int32) &&& 31)) &&& (255 : Int32)).toUInt32.toUInt16.toUInt32.toInt32)), .val (.int (((p5 >>> ((16 : Int32) &&& 31)) &&& (255 : Int32)).toUInt32.toUInt16.toUInt32.toInt32)), .unset, .unset, .unset, .unset, .unset, .unset] [(.int p5)])) _
    refine XS.bipush X0.here hx rfl (own_hb hby at_108) ?_
    show Steps p.tables e below (T0.setTop (mkF m 110 #[.val (.long p0), .second, .val (.long p1), .second, .val (.long p2), .second, .val (.long p3), .second, .val (.int p4), .val (.int p5), .val (.int v32), .val (.long v36), .second, .val (.long ((((p4 >>> ((2 : Int32) &&& 31)) &&& (3 : Int32)) - (1 : Int32)).toInt64)), .second, .val (.long v41), .second, .val (.int ((p5 &&& (255 : Int32)).toUInt32.toUInt16.toUInt32.toInt32)), .val (.int (((p5 >>> ((8 : Int32) &&& 31)) &&& (255 : Int32)).toUInt32.toUInt16.toUInt32.toInt32)), .val (.int (((p5 >>> ((16 : Int32) &&& 31)) &&& (255 : Int32)).toUInt32.toUInt16.toUInt32.toInt32)), .unset, .unset, .unset, .unset, .unset, .unset] [(.int (24 : Int32)), (.int p5)])) _
    refine XS.ishr X0.here hx rfl (own_hb hby at_110) rfl ?_
    show Steps p.tables e below (T0.setTop (mkF m 111 #[.val (.long p0), .second, .val (.long p1), .second, .val (.long p2), .second, .val (.long p3), .second, .val (.int p4), .val (.int p5), .val (.int v32), .val (.long v36), .second, .val (.long ((((p4 >>> ((2 : Int32) &&& 31)) &&& (3 : Int32)) - (1 : Int32)).toInt64)), .second, .val (.long v41), .second, .val (.int ((p5 &&& (255 : Int32)).toUInt32.toUInt16.toUInt32.toInt32)), .val (.int (((p5 >>> ((8 : Int32) &&& 31)) &&& (255 : Int32)).toUInt32.toUInt16.toUInt32.toInt32)), .val (.int (((p5 >>> ((16 : Int32) &&& 31)) &&& (255 : Int32)).toUInt32.toUInt16.toUInt32.toInt32)), .unset, .unset, .unset, .unset, .unset, .unset] [(.int (p5 >>> ((24 : Int32) &&& 31)))])) _
    refine XS.sipush X0.here hx rfl (own_hb hby at_111) ?_
    show Steps p.tables e below (T0.setTop (mkF m 114 #[.val (.long p0), .second, .val (.long p1), .second, .val (.long p2), .second, .val (.long p3), .second, .val (.int p4), .val (.int p5), .val (.int v32), .val (.long v36), .second, .val (.long ((((p4 >>> ((2 : Int32) &&& 31)) &&& (3 : Int32)) - (1 : Int32)).toInt64)), .second, .val (.long v41), .second, .val (.int ((p5 &&& (255 : Int32)).toUInt32.toUInt16.toUInt32.toInt32)), .val (.int (((p5 >>> ((8 : Int32) &&& 31)) &&& (255 : Int32)).toUInt32.toUInt16.toUInt32.toInt32)), .val (.int (((p5 >>> ((16 : Int32) &&& 31)) &&& (255 : Int32)).toUInt32.toUInt16.toUInt32.toInt32)), .unset, .unset, .unset, .unset, .unset, .unset] [(.int (255 : Int32)), (.int (p5 >>> ((24 : Int32) &&& 31)))])) _
    refine XS.iand X0.here hx rfl (own_hb hby at_114) rfl ?_
    show Steps p.tables e below (T0.setTop (mkF m 115 #[.val (.long p0), .second, .val (.long p1), .second, .val (.long p2), .second, .val (.long p3), .second, .val (.int p4), .val (.int p5), .val (.int v32), .val (.long v36), .second, .val (.long ((((p4 >>> ((2 : Int32) &&& 31)) &&& (3 : Int32)) - (1 : Int32)).toInt64)), .second, .val (.long v41), .second, .val (.int ((p5 &&& (255 : Int32)).toUInt32.toUInt16.toUInt32.toInt32)), .val (.int (((p5 >>> ((8 : Int32) &&& 31)) &&& (255 : Int32)).toUInt32.toUInt16.toUInt32.toInt32)), .val (.int (((p5 >>> ((16 : Int32) &&& 31)) &&& (255 : Int32)).toUInt32.toUInt16.toUInt32.toInt32)), .unset, .unset, .unset, .unset, .unset, .unset] [(.int ((p5 >>> ((24 : Int32) &&& 31)) &&& (255 : Int32)))])) _
    refine XS.i2c X0.here hx rfl (own_hb hby at_115) rfl ?_
    show Steps p.tables e below (T0.setTop (mkF m 116 #[.val (.long p0), .second, .val (.long p1), .second, .val (.long p2), .second, .val (.long p3), .second, .val (.int p4), .val (.int p5), .val (.int v32), .val (.long v36), .second, .val (.long ((((p4 >>> ((2 : Int32) &&& 31)) &&& (3 : Int32)) - (1 : Int32)).toInt64)), .second, .val (.long v41), .second, .val (.int ((p5 &&& (255 : Int32)).toUInt32.toUInt16.toUInt32.toInt32)), .val (.int (((p5 >>> ((8 : Int32) &&& 31)) &&& (255 : Int32)).toUInt32.toUInt16.toUInt32.toInt32)), .val (.int (((p5 >>> ((16 : Int32) &&& 31)) &&& (255 : Int32)).toUInt32.toUInt16.toUInt32.toInt32)), .unset, .unset, .unset, .unset, .unset, .unset] [(.int (((p5 >>> ((24 : Int32) &&& 31)) &&& (255 : Int32)).toUInt32.toUInt16.toUInt32.toInt32))])) _
    refine XS.istore X0.here hx rfl (own_hb hby at_116) rfl (l' := #[.val (.long p0), .second, .val (.long p1), .second, .val (.long p2), .second, .val (.long p3), .second, .val (.int p4), .val (.int p5), .val (.int v32), .val (.long v36), .second, .val (.long ((((p4 >>> ((2 : Int32) &&& 31)) &&& (3 : Int32)) - (1 : Int32)).toInt64)), .second, .val (.long v41), .second, .val (.int ((p5 &&& (255 : Int32)).toUInt32.toUInt16.toUInt32.toInt32)), .val (.int (((p5 >>> ((8 : Int32) &&& 31)) &&& (255 : Int32)).toUInt32.toUInt16.toUInt32.toInt32)), .val (.int (((p5 >>> ((16 : Int32) &&& 31)) &&& (255 : Int32)).toUInt32.toUInt16.toUInt32.toInt32)), .val (.int (((p5 >>> ((24 : Int32) &&& 31)) &&& (255 : Int32)).toUInt32.toUInt16.toUInt32.toInt32)), .unset, .unset, .unset, .unset, .unset]) rfl ?_
    exact kt
  obtain ⟨T44, h44, X44, e44, E44, A44, D44, -, st44⟩ := newO X0 hx hZ hown (hw _ (List.mem_of_getElem? (i := 0) rfl)) (hw _ (List.mem_of_getElem? (i := 1) rfl)) (hw _ (List.mem_of_getElem? (i := 2) rfl)) e0 (g := (mkF m 118 #[.val (.long p0), .second, .val (.long p1), .second, .val (.long p2), .second, .val (.long p3), .second, .val (.int p4), .val (.int p5), .val (.int v32), .val (.long v36), .second, .val (.long ((((p4 >>> ((2 : Int32) &&& 31)) &&& (3 : Int32)) - (1 : Int32)).toInt64)), .second, .val (.long v41), .second, .val (.int ((p5 &&& (255 : Int32)).toUInt32.toUInt16.toUInt32.toInt32)), .val (.int (((p5 >>> ((8 : Int32) &&& 31)) &&& (255 : Int32)).toUInt32.toUInt16.toUInt32.toInt32)), .val (.int (((p5 >>> ((16 : Int32) &&& 31)) &&& (255 : Int32)).toUInt32.toUInt16.toUInt32.toInt32)), .val (.int (((p5 >>> ((24 : Int32) &&& 31)) &&& (255 : Int32)).toUInt32.toUInt16.toUInt32.toInt32)), .unset, .unset, .unset, .unset, .unset] [])) rfl (own_hb hby at_118) (by decide) (by decide)
  obtain ⟨b44, g44⟩ : ∃ z, z = h0.size := ⟨_, rfl⟩
  rw [← g44] at A44 D44 st44
  have gx44 : n0 ≤ b44 := Nat.le_trans Z0 (Nat.le_of_eq g44.symm)
  refine own_Go.of (S' := (T44.setTop (mkF m 121 #[.val (.long p0), .second, .val (.long p1), .second, .val (.long p2), .second, .val (.long p3), .second, .val (.int p4), .val (.int p5), .val (.int v32), .val (.long v36), .second, .val (.long ((((p4 >>> ((2 : Int32) &&& 31)) &&& (3 : Int32)) - (1 : Int32)).toInt64)), .second, .val (.long v41), .second, .val (.int ((p5 &&& (255 : Int32)).toUInt32.toUInt16.toUInt32.toInt32)), .val (.int (((p5 >>> ((8 : Int32) &&& 31)) &&& (255 : Int32)).toUInt32.toUInt16.toUInt32.toInt32)), .val (.int (((p5 >>> ((16 : Int32) &&& 31)) &&& (255 : Int32)).toUInt32.toUInt16.toUInt32.toInt32)), .val (.int (((p5 >>> ((24 : Int32) &&& 31)) &&& (255 : Int32)).toUInt32.toUInt16.toUInt32.toInt32)), .unset, .unset, .unset, .unset, .unset] [(.ref b44)]))) st44 ?_
  have f45 : Old Z n0 h44 := pr0.ext E44
  have z46 : n0 ≤ h44.size := Nat.le_trans Z0 E44.1
  have f47 : Fld Z h44 b44 "java/lang/String" "coder" "B" (.int (0 : Int32)) := D44 (Or.inr (hw _ (List.mem_of_getElem? (i := 27) rfl))) (ty := .byte) (by decide)
  have f48 : Fld Z h44 b44 "java/lang/String" "value" "[B" .null := D44 (Or.inr (hw _ (List.mem_of_getElem? (i := 29) rfl))) (ty := (.array .byte)) (by decide)
  refine own_Go.of (S' := (T44.setTop (mkF m 123 #[.val (.long p0), .second, .val (.long p1), .second, .val (.long p2), .second, .val (.long p3), .second, .val (.int p4), .val (.int p5), .val (.int v32), .val (.long v36), .second, .val (.long ((((p4 >>> ((2 : Int32) &&& 31)) &&& (3 : Int32)) - (1 : Int32)).toInt64)), .second, .val (.long v41), .second, .val (.int ((p5 &&& (255 : Int32)).toUInt32.toUInt16.toUInt32.toInt32)), .val (.int (((p5 >>> ((8 : Int32) &&& 31)) &&& (255 : Int32)).toUInt32.toUInt16.toUInt32.toInt32)), .val (.int (((p5 >>> ((16 : Int32) &&& 31)) &&& (255 : Int32)).toUInt32.toUInt16.toUInt32.toInt32)), .val (.int (((p5 >>> ((24 : Int32) &&& 31)) &&& (255 : Int32)).toUInt32.toUInt16.toUInt32.toInt32)), .unset, .unset, .unset, .unset, .unset] [(.int (2 : Int32)), (.ref b44), (.ref b44)]))) (fun t kt => ?_) ?_
  · show Steps p.tables e below (T44.setTop (mkF m 121 #[.val (.long p0), .second, .val (.long p1), .second, .val (.long p2), .second, .val (.long p3), .second, .val (.int p4), .val (.int p5), .val (.int v32), .val (.long v36), .second, .val (.long ((((p4 >>> ((2 : Int32) &&& 31)) &&& (3 : Int32)) - (1 : Int32)).toInt64)), .second, .val (.long v41), .second, .val (.int ((p5 &&& (255 : Int32)).toUInt32.toUInt16.toUInt32.toInt32)), .val (.int (((p5 >>> ((8 : Int32) &&& 31)) &&& (255 : Int32)).toUInt32.toUInt16.toUInt32.toInt32)), .val (.int (((p5 >>> ((16 : Int32) &&& 31)) &&& (255 : Int32)).toUInt32.toUInt16.toUInt32.toInt32)), .val (.int (((p5 >>> ((24 : Int32) &&& 31)) &&& (255 : Int32)).toUInt32.toUInt16.toUInt32.toInt32)), .unset, .unset, .unset, .unset, .unset] [(.ref b44)])) _
    refine XS.dup X44.here hx rfl (own_hb hby at_121) rfl rfl ?_
    show Steps p.tables e below (T44.setTop (mkF m 122 #[.val (.long p0), .second, .val (.long p1), .second, .val (.long p2), .second, .val (.long p3), .second, .val (.int p4), .val (.int p5), .val (.int v32), .val (.long v36), .second, .val (.long ((((p4 >>> ((2 : Int32) &&& 31)) &&& (3 : Int32)) - (1 : Int32)).toInt64)), .second, .val (.long v41), .second, .val (.int ((p5 &&& (255 : Int32)).toUInt32.toUInt16.toUInt32.toInt32)), .val (.int (((p5 >>> ((8 : Int32) &&& 31)) &&& (255 : Int32)).toUInt32.toUInt16.toUInt32.toInt32)), .val (.int (((p5 >>> ((16 : Int32) &&& 31)) &&& (255 : Int32)).toUInt32.toUInt16.toUInt32.toInt32)), .val (.int (((p5 >>> ((24 : Int32) &&& 31)) &&& (255 : Int32)).toUInt32.toUInt16.toUInt32.toInt32)), .unset, .unset, .unset, .unset, .unset] [(.ref b44), (.ref b44)])) _
    refine XS.iconst X44.here hx rfl (own_hb hby at_122) ?_
    exact kt
  obtain ⟨T49, h49, X49, e49, E49, A49, st49⟩ := own_newP X44 hx hZ (hw _ (List.mem_of_getElem? (i := 3) rfl)) e44 (g := (mkF m 123 #[.val (.long p0), .second, .val (.long p1), .second, .val (.long p2), .second, .val (.long p3), .second, .val (.int p4), .val (.int p5), .val (.int v32), .val (.long v36), .second, .val (.long ((((p4 >>> ((2 : Int32) &&& 31)) &&& (3 : Int32)) - (1 : Int32)).toInt64)), .second, .val (.long v41), .second, .val (.int ((p5 &&& (255 : Int32)).toUInt32.toUInt16.toUInt32.toInt32)), .val (.int (((p5 >>> ((8 : Int32) &&& 31)) &&& (255 : Int32)).toUInt32.toUInt16.toUInt32.toInt32)), .val (.int (((p5 >>> ((16 : Int32) &&& 31)) &&& (255 : Int32)).toUInt32.toUInt16.toUInt32.toInt32)), .val (.int (((p5 >>> ((24 : Int32) &&& 31)) &&& (255 : Int32)).toUInt32.toUInt16.toUInt32.toInt32)), .unset, .unset, .unset, .unset, .unset] [(.int (2 : Int32)), (.ref b44), (.ref b44)])) rfl (own_hb hby at_123) rfl (n := 2) (cap := 2) rfl (by decide) (by decide) (by decide) (by decide)
  obtain ⟨b49, g49⟩ : ∃ z, z = h44.size := ⟨_, rfl⟩
  rw [← g49] at A49 st49
  have gx49 : n0 ≤ b49 := Nat.le_trans z46 (Nat.le_of_eq g49.symm)
  have ne50 : b44 ≠ b49 := Nat.ne_of_lt (Nat.lt_of_lt_of_le A44.lt (Nat.le_of_eq g49.symm))
  refine own_Go.of (S' := (T49.setTop (mkF m 125 #[.val (.long p0), .second, .val (.long p1), .second, .val (.long p2), .second, .val (.long p3), .second, .val (.int p4), .val (.int p5), .val (.int v32), .val (.long v36), .second, .val (.long ((((p4 >>> ((2 : Int32) &&& 31)) &&& (3 : Int32)) - (1 : Int32)).toInt64)), .second, .val (.long v41), .second, .val (.int ((p5 &&& (255 : Int32)).toUInt32.toUInt16.toUInt32.toInt32)), .val (.int (((p5 >>> ((8 : Int32) &&& 31)) &&& (255 : Int32)).toUInt32.toUInt16.toUInt32.toInt32)), .val (.int (((p5 >>> ((16 : Int32) &&& 31)) &&& (255 : Int32)).toUInt32.toUInt16.toUInt32.toInt32)), .val (.int (((p5 >>> ((24 : Int32) &&& 31)) &&& (255 : Int32)).toUInt32.toUInt16.toUInt32.toInt32)), .unset, .unset, .unset, .unset, .unset] [(.ref b49), (.ref b44), (.ref b44)]))) st49 ?_
  have f51 : Old Z n0 h49 := f45.ext E49
  have f52 : Exa Z h49 b44 "java/lang/String" := A44.ext E49
  have f53 : Fld Z h49 b44 "java/lang/String" "coder" "B" (.int (0 : Int32)) := f47.ext E49
  have f54 : Fld Z h49 b44 "java/lang/String" "value" "[B" .null := f48.ext E49
  have z55 : n0 ≤ h49.size := Nat.le_trans z46 E49.1
  have f56 : own_Ar Z h49 b49 .char 2 (own_I (fun _ => (0 : Int32))) := A49
  refine own_Go.of (S' := (T49.setTop (mkF m 129 #[.val (.long p0), .second, .val (.long p1), .second, .val (.long p2), .second, .val (.long p3), .second, .val (.int p4), .val (.int p5), .val (.int v32), .val (.long v36), .second, .val (.long ((((p4 >>> ((2 : Int32) &&& 31)) &&& (3 : Int32)) - (1 : Int32)).toInt64)), .second, .val (.long v41), .second, .val (.int ((p5 &&& (255 : Int32)).toUInt32.toUInt16.toUInt32.toInt32)), .val (.int (((p5 >>> ((8 : Int32) &&& 31)) &&& (255 : Int32)).toUInt32.toUInt16.toUInt32.toInt32)), .val (.int (((p5 >>> ((16 : Int32) &&& 31)) &&& (255 : Int32)).toUInt32.toUInt16.toUInt32.toInt32)), .val (.int (((p5 >>> ((24 : Int32) &&& 31)) &&& (255 : Int32)).toUInt32.toUInt16.toUInt32.toInt32)), .unset, .unset, .unset, .unset, .unset] [(.int ((p5 &&& (255 : Int32)).toUInt32.toUInt16.toUInt32.toInt32)), (.int (0 : Int32)), (.ref b49), (.ref b49), (.ref b44), (.ref b44)]))) (fun t kt => ?_) ?_
  · show Steps p.tables e below (T49.setTop (mkF m 125 #[.val (.long p0), .second, .val (.long p1), .second, .val (.long p2), .second, .val (.long p3), .second, .val (.int p4), .val (.int p5), .val (.int v32), .val (.long v36), .second, .val (.long ((((p4 >>> ((2 : Int32) &&& 31)) &&& (3 : Int32)) - (1 : Int32)).toInt64)), .second, .val (.long v41), .second, .val (.int ((p5 &&& (255 : Int32)).toUInt32.toUInt16.toUInt32.toInt32)), .val (.int (((p5 >>> ((8 : Int32) &&& 31)) &&& (255 : Int32)).toUInt32.toUInt16.toUInt32.toInt32)), .val (.int (((p5 >>> ((16 : Int32) &&& 31)) &&& (255 : Int32)).toUInt32.toUInt16.toUInt32.toInt32)), .val (.int (((p5 >>> ((24 : Int32) &&& 31)) &&& (255 : Int32)).toUInt32.toUInt16.toUInt32.toInt32)), .unset, .unset, .unset, .unset, .unset] [(.ref b49), (.ref b44), (.ref b44)])) _
    refine XS.dup X49.here hx rfl (own_hb hby at_125) rfl rfl ?_
    show Steps p.tables e below (T49.setTop (mkF m 126 #[.val (.long p0), .second, .val (.long p1), .second, .val (.long p2), .second, .val (.long p3), .second, .val (.int p4), .val (.int p5), .val (.int v32), .val (.long v36), .second, .val (.long ((((p4 >>> ((2 : Int32) &&& 31)) &&& (3 : Int32)) - (1 : Int32)).toInt64)), .second, .val (.long v41), .second, .val (.int ((p5 &&& (255 : Int32)).toUInt32.toUInt16.toUInt32.toInt32)), .val (.int (((p5 >>> ((8 : Int32) &&& 31)) &&& (255 : Int32)).toUInt32.toUInt16.toUInt32.toInt32)), .val (.int (((p5 >>> ((16 : Int32) &&& 31)) &&& (255 : Int32)).toUInt32.toUInt16.toUInt32.toInt32)), .val (.int (((p5 >>> ((24 : Int32) &&& 31)) &&& (255 : Int32)).toUInt32.toUInt16.toUInt32.toInt32)), .unset, .unset, .unset, .unset, .unset] [(.ref b49), (.ref b49), (.ref b44), (.ref b44)])) _
    refine XS.iconst X49.here hx rfl (own_hb hby at_126) ?_
    show Steps p.tables e below (T49.setTop (mkF m 127 #[.val (.long p0), .second, .val (.long p1), .second, .val (.long p2), .second, .val (.long p3), .second, .val (.int p4), .val (.int p5), .val (.int v32), .val (.long v36), .second, .val (.long ((((p4 >>> ((2 : Int32) &&& 31)) &&& (3 : Int32)) - (1 : Int32)).toInt64)), .second, .val (.long v41), .second, .val (.int ((p5 &&& (255 : Int32)).toUInt32.toUInt16.toUInt32.toInt32)), .val (.int (((p5 >>> ((8 : Int32) &&& 31)) &&& (255 : Int32)).toUInt32.toUInt16.toUInt32.toInt32)), .val (.int (((p5 >>> ((16 : Int32) &&& 31)) &&& (255 : Int32)).toUInt32.toUInt16.toUInt32.toInt32)), .val (.int (((p5 >>> ((24 : Int32) &&& 31)) &&& (255 : Int32)).toUInt32.toUInt16.toUInt32.toInt32)), .unset, .unset, .unset, .unset, .unset] [(.int (0 : Int32)), (.ref b49), (.ref b49), (.ref b44), (.ref b44)])) _
    refine XS.iload X49.here hx rfl (own_hb hby at_127) rfl ?_
    exact kt
  obtain ⟨cl57, Ar57, hin57, ub57⟩ := own_Ar.put (j := (0 : Int32)) (k := 0) f56 ⟨rfl, by decide⟩
  obtain ⟨T57, h57, X57, e57, W57, st57⟩ := stC X49 hx hZ e49 Ar57 (j := (0 : Int32)) hin57 (g := (mkF m 129 #[.val (.long p0), .second, .val (.long p1), .second, .val (.long p2), .second, .val (.long p3), .second, .val (.int p4), .val (.int p5), .val (.int v32), .val (.long v36), .second, .val (.long ((((p4 >>> ((2 : Int32) &&& 31)) &&& (3 : Int32)) - (1 : Int32)).toInt64)), .second, .val (.long v41), .second, .val (.int ((p5 &&& (255 : Int32)).toUInt32.toUInt16.toUInt32.toInt32)), .val (.int (((p5 >>> ((8 : Int32) &&& 31)) &&& (255 : Int32)).toUInt32.toUInt16.toUInt32.toInt32)), .val (.int (((p5 >>> ((16 : Int32) &&& 31)) &&& (255 : Int32)).toUInt32.toUInt16.toUInt32.toInt32)), .val (.int (((p5 >>> ((24 : Int32) &&& 31)) &&& (255 : Int32)).toUInt32.toUInt16.toUInt32.toInt32)), .unset, .unset, .unset, .unset, .unset] [(.int ((p5 &&& (255 : Int32)).toUInt32.toUInt16.toUInt32.toInt32)), (.int (0 : Int32)), (.ref b49), (.ref b49), (.ref b44), (.ref b44)])) rfl rfl (own_hb hby at_129)
  refine own_Go.of (S' := (T57.setTop (mkF m 130 #[.val (.long p0), .second, .val (.long p1), .second, .val (.long p2), .second, .val (.long p3), .second, .val (.int p4), .val (.int p5), .val (.int v32), .val (.long v36), .second, .val (.long ((((p4 >>> ((2 : Int32) &&& 31)) &&& (3 : Int32)) - (1 : Int32)).toInt64)), .second, .val (.long v41), .second, .val (.int ((p5 &&& (255 : Int32)).toUInt32.toUInt16.toUInt32.toInt32)), .val (.int (((p5 >>> ((8 : Int32) &&& 31)) &&& (255 : Int32)).toUInt32.toUInt16.toUInt32.toInt32)), .val (.int (((p5 >>> ((16 : Int32) &&& 31)) &&& (255 : Int32)).toUInt32.toUInt16.toUInt32.toInt32)), .val (.int (((p5 >>> ((24 : Int32) &&& 31)) &&& (255 : Int32)).toUInt32.toUInt16.toUInt32.toInt32)), .unset, .unset, .unset, .unset, .unset] [(.ref b49), (.ref b44), (.ref b44)]))) st57 ?_
  have f58 : Old Z n0 h57 := f51.wr W57 gx49
  have f59 : Exa Z h57 b44 "java/lang/String" := f52.wr W57
  have f60 : Fld Z h57 b44 "java/lang/String" "coder" "B" (.int (0 : Int32)) := f53.other W57 (Or.inl ne50)
  have f61 : Fld Z h57 b44 "java/lang/String" "value" "[B" .null := f54.other W57 (Or.inl ne50)
  have z62 : n0 ≤ h57.size := Nat.le_trans z55 (Keep.of_wr W57).1
  have f63 : own_Ar Z h57 b49 .char 2 (own_I (own_set (fun _ => (0 : Int32)) 0 (nar .char ((p5 &&& (255 : Int32)).toUInt32.toUInt16.toUInt32.toInt32)))) := by rw [← own_upI]; exact ub57 (fits_nar_char _) W57
  have N57 := Fr.snoc X57 N0 gx49
  refine own_Go.of (S' := (T57.setTop (mkF m 134 #[.val (.long p0), .second, .val (.long p1), .second, .val (.long p2), .second, .val (.long p3), .second, .val (.int p4), .val (.int p5), .val (.int v32), .val (.long v36), .second, .val (.long ((((p4 >>> ((2 : Int32) &&& 31)) &&& (3 : Int32)) - (1 : Int32)).toInt64)), .second, .val (.long v41), .second, .val (.int ((p5 &&& (255 : Int32)).toUInt32.toUInt16.toUInt32.toInt32)), .val (.int (((p5 >>> ((8 : Int32) &&& 31)) &&& (255 : Int32)).toUInt32.toUInt16.toUInt32.toInt32)), .val (.int (((p5 >>> ((16 : Int32) &&& 31)) &&& (255 : Int32)).toUInt32.toUInt16.toUInt32.toInt32)), .val (.int (((p5 >>> ((24 : Int32) &&& 31)) &&& (255 : Int32)).toUInt32.toUInt16.toUInt32.toInt32)), .unset, .unset, .unset, .unset, .unset] [(.int (((p5 >>> ((8 : Int32) &&& 31)) &&& (255 : Int32)).toUInt32.toUInt16.toUInt32.toInt32)), (.int (1 : Int32)), (.ref b49), (.ref b49), (.ref b44), (.ref b44)]))) (fun t kt => ?_) ?_
  · show Steps p.tables e below (T57.setTop (mkF m 130 #[.val (.long p0), .second, .val (.long p1), .second, .val (.long p2), .second, .val (.long p3), .second, .val (.int p4), .val (.int p5), .val (.int v32), .val (.long v36), .second, .val (.long ((((p4 >>> ((2 : Int32) &&& 31)) &&& (3 : Int32)) - (1 : Int32)).toInt64)), .second, .val (.long v41), .second, .val (.int ((p5 &&& (255 : Int32)).toUInt32.toUInt16.toUInt32.toInt32)), .val (.int (((p5 >>> ((8 : Int32) &&& 31)) &&& (255 : Int32)).toUInt32.toUInt16.toUInt32.toInt32)), .val (.int (((p5 >>> ((16 : Int32) &&& 31)) &&& (255 : Int32)).toUInt32.toUInt16.toUInt32.toInt32)), .val (.int (((p5 >>> ((24 : Int32) &&& 31)) &&& (255 : Int32)).toUInt32.toUInt16.toUInt32.toInt32)), .unset, .unset, .unset, .unset, .unset] [(.ref b49), (.ref b44), (.ref b44)])) _
    refine XS.dup X57.here hx rfl (own_hb hby at_130) rfl rfl ?_
    show Steps p.tables e below (T57.setTop (mkF m 131 #[.val (.long p0), .second, .val (.long p1), .second, .val (.long p2), .second, .val (.long p3), .second, .val (.int p4), .val (.int p5), .val (.int v32), .val (.long v36), .second, .val (.long ((((p4 >>> ((2 : Int32) &&& 31)) &&& (3 : Int32)) - (1 : Int32)).toInt64)), .second, .val (.long v41), .second, .val (.int ((p5 &&& (255 : Int32)).toUInt32.toUInt16.toUInt32.toInt32)), .val (.int (((p5 >>> ((8 : Int32) &&& 31)) &&& (255 : Int32)).toUInt32.toUInt16.toUInt32.toInt32)), .val (.int (((p5 >>> ((16 : Int32) &&& 31)) &&& (255 : Int32)).toUInt32.toUInt16.toUInt32.toInt32)), .val (.int (((p5 >>> ((24 : Int32) &&& 31)) &&& (255 : Int32)).toUInt32.toUInt16.toUInt32.toInt32)), .unset, .unset, .unset, .unset, .unset] [(.ref b49), (.ref b49), (.ref b44), (.ref b44)])) _
    refine XS.iconst X57.here hx rfl (own_hb hby at_131) ?_
    show Steps p.tables e below (T57.setTop (mkF m 132 #[.val (.long p0), .second, .val (.long p1), .second, .val (.long p2), .second, .val (.long p3), .second, .val (.int p4), .val (.int p5), .val (.int v32), .val (.long v36), .second, .val (.long ((((p4 >>> ((2 : Int32) &&& 31)) &&& (3 : Int32)) - (1 : Int32)).toInt64)), .second, .val (.long v41), .second, .val (.int ((p5 &&& (255 : Int32)).toUInt32.toUInt16.toUInt32.toInt32)), .val (.int (((p5 >>> ((8 : Int32) &&& 31)) &&& (255 : Int32)).toUInt32.toUInt16.toUInt32.toInt32)), .val (.int (((p5 >>> ((16 : Int32) &&& 31)) &&& (255 : Int32)).toUInt32.toUInt16.toUInt32.toInt32)), .val (.int (((p5 >>> ((24 : Int32) &&& 31)) &&& (255 : Int32)).toUInt32.toUInt16.toUInt32.toInt32)), .unset, .unset, .unset, .unset, .unset] [(.int (1 : Int32)), (.ref b49), (.ref b49), (.ref b44), (.ref b44)])) _
    refine XS.iload X57.here hx rfl (own_hb hby at_132) rfl ?_
    exact kt
  obtain ⟨cl64, Ar64, hin64, ub64⟩ := own_Ar.put (j := (1 : Int32)) (k := 1) f63 ⟨rfl, by decide⟩
  obtain ⟨T64, h64, X64, e64, W64, st64⟩ := stC X57 hx hZ e57 Ar64 (j := (1 : Int32)) hin64 (g := (mkF m 134 #[.val (.long p0), .second, .val (.long p1), .second, .val (.long p2), .second, .val (.long p3), .second, .val (.int p4), .val (.int p5), .val (.int v32), .val (.long v36), .second, .val (.long ((((p4 >>> ((2 : Int32) &&& 31)) &&& (3 : Int32)) - (1 : Int32)).toInt64)), .second, .val (.long v41), .second, .val (.int ((p5 &&& (255 : Int32)).toUInt32.toUInt16.toUInt32.toInt32)), .val (.int (((p5 >>> ((8 : Int32) &&& 31)) &&& (255 : Int32)).toUInt32.toUInt16.toUInt32.toInt32)), .val (.int (((p5 >>> ((16 : Int32) &&& 31)) &&& (255 : Int32)).toUInt32.toUInt16.toUInt32.toInt32)), .val (.int (((p5 >>> ((24 : Int32) &&& 31)) &&& (255 : Int32)).toUInt32.toUInt16.toUInt32.toInt32)), .unset, .unset, .unset, .unset, .unset] [(.int (((p5 >>> ((8 : Int32) &&& 31)) &&& (255 : Int32)).toUInt32.toUInt16.toUInt32.toInt32)), (.int (1 : Int32)), (.ref b49), (.ref b49), (.ref b44), (.ref b44)])) rfl rfl (own_hb hby at_134)
  refine own_Go.of (S' := (T64.setTop (mkF m 135 #[.val (.long p0), .second, .val (.long p1), .second, .val (.long p2), .second, .val (.long p3), .second, .val (.int p4), .val (.int p5), .val (.int v32), .val (.long v36), .second, .val (.long ((((p4 >>> ((2 : Int32) &&& 31)) &&& (3 : Int32)) - (1 : Int32)).toInt64)), .second, .val (.long v41), .second, .val (.int ((p5 &&& (255 : Int32)).toUInt32.toUInt16.toUInt32.toInt32)), .val (.int (((p5 >>> ((8 : Int32) &&& 31)) &&& (255 : Int32)).toUInt32.toUInt16.toUInt32.toInt32)), .val (.int (((p5 >>> ((16 : Int32) &&& 31)) &&& (255 : Int32)).toUInt32.toUInt16.toUInt32.toInt32)), .val (.int (((p5 >>> ((24 : Int32) &&& 31)) &&& (255 : Int32)).toUInt32.toUInt16.toUInt32.toInt32)), .unset, .unset, .unset, .unset, .unset] [(.ref b49), (.ref b44), (.ref b44)]))) st64 ?_
  have f65 : Old Z n0 h64 := f58.wr W64 gx49
  have f66 : Exa Z h64 b44 "java/lang/String" := f59.wr W64
  have f67 : Fld Z h64 b44 "java/lang/String" "coder" "B" (.int (0 : Int32)) := f60.other W64 (Or.inl ne50)
  have f68 : Fld Z h64 b44 "java/lang/String" "value" "[B" .null := f61.other W64 (Or.inl ne50)
  have z69 : n0 ≤ h64.size := Nat.le_trans z62 (Keep.of_wr W64).1
  have f70 : own_Ar Z h64 b49 .char 2 (own_I (own_set (own_set (fun _ => (0 : Int32)) 0 (nar .char ((p5 &&& (255 : Int32)).toUInt32.toUInt16.toUInt32.toInt32))) 1 (nar .char (((p5 >>> ((8 : Int32) &&& 31)) &&& (255 : Int32)).toUInt32.toUInt16.toUInt32.toInt32)))) := by rw [← own_upI]; exact ub64 (fits_nar_char _) W64
  have N64 := Fr.snoc X64 N57 gx49
  obtain ⟨kC71, VA71⟩ := f70.arv .null
  have VB71 : Arv Z h64 b49 kC71 .char (2 : Int32) ([(nar .char ((p5 &&& (255 : Int32)).toUInt32.toUInt16.toUInt32.toInt32)), (nar .char (((p5 >>> ((8 : Int32) &&& 31)) &&& (255 : Int32)).toUInt32.toUInt16.toUInt32.toInt32))].map Value.int) .null := VA71
  obtain ⟨_, _, ⟨T71, L71, k71, n71⟩, -, X71, ⟨Lc71, hQ71, l71, y71, z71⟩, st71⟩ := X64.specialBack hx (y := (⟨"java/lang/String", "<init>", "([C)V"⟩ : MethodName)) rfl hown (mvT hZ (hw _ (List.mem_of_getElem? (i := 4) rfl))) (mvT hZ (hw _ (List.mem_of_getElem? (i := 5) rfl))) (mvT hZ (hw _ (List.mem_of_getElem? (i := 6) rfl))) (by decide) (StrChars.Road.backV (W := 1) hZ hws (kI := 4) (hw _ (List.mem_of_getElem? (i := 1) rfl)) (cs := [(nar .char ((p5 &&& (255 : Int32)).toUInt32.toUInt16.toUInt32.toInt32)), (nar .char (((p5 >>> ((8 : Int32) &&& 31)) &&& (255 : Int32)).toUInt32.toUInt16.toUInt32.toInt32))]) (bs := [((nar .char ((p5 &&& (255 : Int32)).toUInt32.toUInt16.toUInt32.toInt32))).toInt8.toInt32, ((nar .char (((p5 >>> ((8 : Int32) &&& 31)) &&& (255 : Int32)).toUInt32.toUInt16.toUInt32.toInt32))).toInt8.toInt32]) (n := 2) gx44 z69 f66 f68 f67 VB71 (hS.ext f65.2) hz rfl rfl (by decide) (by decide) (own_lat2 _ _) rfl (by decide) (by decide)) (g := (mkF m 135 #[.val (.long p0), .second, .val (.long p1), .second, .val (.long p2), .second, .val (.long p3), .second, .val (.int p4), .val (.int p5), .val (.int v32), .val (.long v36), .second, .val (.long ((((p4 >>> ((2 : Int32) &&& 31)) &&& (3 : Int32)) - (1 : Int32)).toInt64)), .second, .val (.long v41), .second, .val (.int ((p5 &&& (255 : Int32)).toUInt32.toUInt16.toUInt32.toInt32)), .val (.int (((p5 >>> ((8 : Int32) &&& 31)) &&& (255 : Int32)).toUInt32.toUInt16.toUInt32.toInt32)), .val (.int (((p5 >>> ((16 : Int32) &&& 31)) &&& (255 : Int32)).toUInt32.toUInt16.toUInt32.toInt32)), .val (.int (((p5 >>> ((24 : Int32) &&& 31)) &&& (255 : Int32)).toUInt32.toUInt16.toUInt32.toInt32)), .unset, .unset, .unset, .unset, .unset] [(.ref b49), (.ref b44), (.ref b44)])) rfl (by rw [hml]; rfl) (Steps.refl _) (a := b44) (argsL := [(.ref b49)]) (rest := [(.ref b44)]) (lenOf pd_1 rfl) rfl (by show 2 * 0 + _ ≤ _; exact Nat.le_of_eq rfl) (own_hb hby at_135) (fun _ _ => ⟨rfl, e64, (by decide : 2 + 1 ≤ _), (by decide : 6 + 2 ≤ _)⟩)
  dsimp only [Pt.U, Pt.locs, Pt.cells, Pt.slots] at X71 l71 y71 z71 st71 hQ71
  subst l71 y71 z71
  obtain ⟨rfl, N71q, K71, -⟩ := hQ71
  have N71 := Fr.app N64 N71q
  refine own_Go.of (S' := (T71.setTop (mkF m 138 #[.val (.long p0), .second, .val (.long p1), .second, .val (.long p2), .second, .val (.long p3), .second, .val (.int p4), .val (.int p5), .val (.int v32), .val (.long v36), .second, .val (.long ((((p4 >>> ((2 : Int32) &&& 31)) &&& (3 : Int32)) - (1 : Int32)).toInt64)), .second, .val (.long v41), .second, .val (.int ((p5 &&& (255 : Int32)).toUInt32.toUInt16.toUInt32.toInt32)), .val (.int (((p5 >>> ((8 : Int32) &&& 31)) &&& (255 : Int32)).toUInt32.toUInt16.toUInt32.toInt32)), .val (.int (((p5 >>> ((16 : Int32) &&& 31)) &&& (255 : Int32)).toUInt32.toUInt16.toUInt32.toInt32)), .val (.int (((p5 >>> ((24 : Int32) &&& 31)) &&& (255 : Int32)).toUInt32.toUInt16.toUInt32.toInt32)), .unset, .unset, .unset, .unset, .unset] [(.ref b44)]))) (fun t kt => st71.trans kt) ?_
  have f72 : Old Z n0 T71.heap := f65.keep K71 (allS gx44 all0)
  have f73 : Exa Z T71.heap b44 "java/lang/String" := f66.keep K71
  have f74 : own_Ar Z T71.heap b49 .char 2 (own_I (own_set (own_set (fun _ => (0 : Int32)) 0 (nar .char ((p5 &&& (255 : Int32)).toUInt32.toUInt16.toUInt32.toInt32))) 1 (nar .char (((p5 >>> ((8 : Int32) &&& 31)) &&& (255 : Int32)).toUInt32.toUInt16.toUInt32.toInt32)))) := f70.keep K71 (ninS (Ne.symm ne50) nin0)
  have z75 : n0 ≤ T71.heap.size := Nat.le_trans z69 K71.1
  refine own_Go.of (S' := (T71.setTop (mkF m 145 #[.val (.long p0), .second, .val (.long p1), .second, .val (.long p2), .second, .val (.long p3), .second, .val (.int p4), .val (.int p5), .val (.int v32), .val (.long v36), .second, .val (.long ((((p4 >>> ((2 : Int32) &&& 31)) &&& (3 : Int32)) - (1 : Int32)).toInt64)), .second, .val (.long v41), .second, .val (.int ((p5 &&& (255 : Int32)).toUInt32.toUInt16.toUInt32.toInt32)), .val (.int (((p5 >>> ((8 : Int32) &&& 31)) &&& (255 : Int32)).toUInt32.toUInt16.toUInt32.toInt32)), .val (.int (((p5 >>> ((16 : Int32) &&& 31)) &&& (255 : Int32)).toUInt32.toUInt16.toUInt32.toInt32)), .val (.int (((p5 >>> ((24 : Int32) &&& 31)) &&& (255 : Int32)).toUInt32.toUInt16.toUInt32.toInt32)), .val (.ref b44), .unset, .unset, .unset, .unset] [(.int (p4 &&& (32 : Int32)))]))) (fun t kt => ?_) ?_
  · show Steps p.tables e below (T71.setTop (mkF m 138 #[.val (.long p0), .second, .val (.long p1), .second, .val (.long p2), .second, .val (.long p3), .second, .val (.int p4), .val (.int p5), .val (.int v32), .val (.long v36), .second, .val (.long ((((p4 >>> ((2 : Int32) &&& 31)) &&& (3 : Int32)) - (1 : Int32)).toInt64)), .second, .val (.long v41), .second, .val (.int ((p5 &&& (255 : Int32)).toUInt32.toUInt16.toUInt32.toInt32)), .val (.int (((p5 >>> ((8 : Int32) &&& 31)) &&& (255 : Int32)).toUInt32.toUInt16.toUInt32.toInt32)), .val (.int (((p5 >>> ((16 : Int32) &&& 31)) &&& (255 : Int32)).toUInt32.toUInt16.toUInt32.toInt32)), .val (.int (((p5 >>> ((24 : Int32) &&& 31)) &&& (255 : Int32)).toUInt32.toUInt16.toUInt32.toInt32)), .unset, .unset, .unset, .unset, .unset] [(.ref b44)])) _
    refine XS.astore X71.here hx rfl (own_hb hby at_138) rfl rfl (l' := #[.val (.long p0), .second, .val (.long p1), .second, .val (.long p2), .second, .val (.long p3), .second, .val (.int p4), .val (.int p5), .val (.int v32), .val (.long v36), .second, .val (.long ((((p4 >>> ((2 : Int32) &&& 31)) &&& (3 : Int32)) - (1 : Int32)).toInt64)), .second, .val (.long v41), .second, .val (.int ((p5 &&& (255 : Int32)).toUInt32.toUInt16.toUInt32.toInt32)), .val (.int (((p5 >>> ((8 : Int32) &&& 31)) &&& (255 : Int32)).toUInt32.toUInt16.toUInt32.toInt32)), .val (.int (((p5 >>> ((16 : Int32) &&& 31)) &&& (255 : Int32)).toUInt32.toUInt16.toUInt32.toInt32)), .val (.int (((p5 >>> ((24 : Int32) &&& 31)) &&& (255 : Int32)).toUInt32.toUInt16.toUInt32.toInt32)), .val (.ref b44), .unset, .unset, .unset, .unset]) rfl ?_
    show Steps p.tables e below (T71.setTop (mkF m 140 #[.val (.long p0), .second, .val (.long p1), .second, .val (.long p2), .second, .val (.long p3), .second, .val (.int p4), .val (.int p5), .val (.int v32), .val (.long v36), .second, .val (.long ((((p4 >>> ((2 : Int32) &&& 31)) &&& (3 : Int32)) - (1 : Int32)).toInt64)), .second, .val (.long v41), .second, .val (.int ((p5 &&& (255 : Int32)).toUInt32.toUInt16.toUInt32.toInt32)), .val (.int (((p5 >>> ((8 : Int32) &&& 31)) &&& (255 : Int32)).toUInt32.toUInt16.toUInt32.toInt32)), .val (.int (((p5 >>> ((16 : Int32) &&& 31)) &&& (255 : Int32)).toUInt32.toUInt16.toUInt32.toInt32)), .val (.int (((p5 >>> ((24 : Int32) &&& 31)) &&& (255 : Int32)).toUInt32.toUInt16.toUInt32.toInt32)), .val (.ref b44), .unset, .unset, .unset, .unset] [])) _
    refine XS.iload X71.here hx rfl (own_hb hby at_140) rfl ?_
    show Steps p.tables e below (T71.setTop (mkF m 142 #[.val (.long p0), .second, .val (.long p1), .second, .val (.long p2), .second, .val (.long p3), .second, .val (.int p4), .val (.int p5), .val (.int v32), .val (.long v36), .second, .val (.long ((((p4 >>> ((2 : Int32) &&& 31)) &&& (3 : Int32)) - (1 : Int32)).toInt64)), .second, .val (.long v41), .second, .val (.int ((p5 &&& (255 : Int32)).toUInt32.toUInt16.toUInt32.toInt32)), .val (.int (((p5 >>> ((8 : Int32) &&& 31)) &&& (255 : Int32)).toUInt32.toUInt16.toUInt32.toInt32)), .val (.int (((p5 >>> ((16 : Int32) &&& 31)) &&& (255 : Int32)).toUInt32.toUInt16.toUInt32.toInt32)), .val (.int (((p5 >>> ((24 : Int32) &&& 31)) &&& (255 : Int32)).toUInt32.toUInt16.toUInt32.toInt32)), .val (.ref b44), .unset, .unset, .unset, .unset] [(.int p4)])) _
    refine XS.bipush X71.here hx rfl (own_hb hby at_142) ?_
    show Steps p.tables e below (T71.setTop (mkF m 144 #[.val (.long p0), .second, .val (.long p1), .second, .val (.long p2), .second, .val (.long p3), .second, .val (.int p4), .val (.int p5), .val (.int v32), .val (.long v36), .second, .val (.long ((((p4 >>> ((2 : Int32) &&& 31)) &&& (3 : Int32)) - (1 : Int32)).toInt64)), .second, .val (.long v41), .second, .val (.int ((p5 &&& (255 : Int32)).toUInt32.toUInt16.toUInt32.toInt32)), .val (.int (((p5 >>> ((8 : Int32) &&& 31)) &&& (255 : Int32)).toUInt32.toUInt16.toUInt32.toInt32)), .val (.int (((p5 >>> ((16 : Int32) &&& 31)) &&& (255 : Int32)).toUInt32.toUInt16.toUInt32.toInt32)), .val (.int (((p5 >>> ((24 : Int32) &&& 31)) &&& (255 : Int32)).toUInt32.toUInt16.toUInt32.toInt32)), .val (.ref b44), .unset, .unset, .unset, .unset] [(.int (32 : Int32)), (.int p4)])) _
    refine XS.iand X71.here hx rfl (own_hb hby at_144) rfl ?_
    exact kt
  by_cases hc145_76 : (p4 &&& (32 : Int32)) = (0 : Int32)
  · skip
    refine own_Go.of (S' := (T71.setTop (mkF m 153 #[.val (.long p0), .second, .val (.long p1), .second, .val (.long p2), .second, .val (.long p3), .second, .val (.int p4), .val (.int p5), .val (.int v32), .val (.long v36), .second, .val (.long ((((p4 >>> ((2 : Int32) &&& 31)) &&& (3 : Int32)) - (1 : Int32)).toInt64)), .second, .val (.long v41), .second, .val (.int ((p5 &&& (255 : Int32)).toUInt32.toUInt16.toUInt32.toInt32)), .val (.int (((p5 >>> ((8 : Int32) &&& 31)) &&& (255 : Int32)).toUInt32.toUInt16.toUInt32.toInt32)), .val (.int (((p5 >>> ((16 : Int32) &&& 31)) &&& (255 : Int32)).toUInt32.toUInt16.toUInt32.toInt32)), .val (.int (((p5 >>> ((24 : Int32) &&& 31)) &&& (255 : Int32)).toUInt32.toUInt16.toUInt32.toInt32)), .val (.ref b44), .unset, .unset, .unset, .unset] []))) (fun t kt => ?_) ?_
    · show Steps p.tables e below (T71.setTop (mkF m 145 #[.val (.long p0), .second, .val (.long p1), .second, .val (.long p2), .second, .val (.long p3), .second, .val (.int p4), .val (.int p5), .val (.int v32), .val (.long v36), .second, .val (.long ((((p4 >>> ((2 : Int32) &&& 31)) &&& (3 : Int32)) - (1 : Int32)).toInt64)), .second, .val (.long v41), .second, .val (.int ((p5 &&& (255 : Int32)).toUInt32.toUInt16.toUInt32.toInt32)), .val (.int (((p5 >>> ((8 : Int32) &&& 31)) &&& (255 : Int32)).toUInt32.toUInt16.toUInt32.toInt32)), .val (.int (((p5 >>> ((16 : Int32) &&& 31)) &&& (255 : Int32)).toUInt32.toUInt16.toUInt32.toInt32)), .val (.int (((p5 >>> ((24 : Int32) &&& 31)) &&& (255 : Int32)).toUInt32.toUInt16.toUInt32.toInt32)), .val (.ref b44), .unset, .unset, .unset, .unset] [(.int (p4 &&& (32 : Int32)))])) _
      refine XS.ifYes X71.here hx rfl (pc0 := 145) (pc' := 153) rfl (own_hb hby at_145) rfl ((if0 _ _).trans (teq hc145_76).1) (by decide) (by decide) ?_
      exact kt
    obtain ⟨T77, h77, X77, e77, E77, A77, D77, -, st77⟩ := newO X71 hx hZ hown (hw _ (List.mem_of_getElem? (i := 0) rfl)) (hw _ (List.mem_of_getElem? (i := 1) rfl)) (hw _ (List.mem_of_getElem? (i := 2) rfl)) rfl (g := (mkF m 153 #[.val (.long p0), .second, .val (.long p1), .second, .val (.long p2), .second, .val (.long p3), .second, .val (.int p4), .val (.int p5), .val (.int v32), .val (.long v36), .second, .val (.long ((((p4 >>> ((2 : Int32) &&& 31)) &&& (3 : Int32)) - (1 : Int32)).toInt64)), .second, .val (.long v41), .second, .val (.int ((p5 &&& (255 : Int32)).toUInt32.toUInt16.toUInt32.toInt32)), .val (.int (((p5 >>> ((8 : Int32) &&& 31)) &&& (255 : Int32)).toUInt32.toUInt16.toUInt32.toInt32)), .val (.int (((p5 >>> ((16 : Int32) &&& 31)) &&& (255 : Int32)).toUInt32.toUInt16.toUInt32.toInt32)), .val (.int (((p5 >>> ((24 : Int32) &&& 31)) &&& (255 : Int32)).toUInt32.toUInt16.toUInt32.toInt32)), .val (.ref b44), .unset, .unset, .unset, .unset] [])) rfl (own_hb hby at_153) (by decide) (by decide)
    obtain ⟨b77, g77⟩ : ∃ z, z = T71.heap.size := ⟨_, rfl⟩
    rw [← g77] at A77 D77 st77
    have gx77 : n0 ≤ b77 := Nat.le_trans z75 (Nat.le_of_eq g77.symm)
    have ne78 : b44 ≠ b77 := Nat.ne_of_lt (Nat.lt_of_lt_of_le f73.lt (Nat.le_of_eq g77.symm))
    have ne79 : b49 ≠ b77 := Nat.ne_of_lt (Nat.lt_of_lt_of_le f74.lt (Nat.le_of_eq g77.symm))
    refine own_Go.of (S' := (T77.setTop (mkF m 156 #[.val (.long p0), .second, .val (.long p1), .second, .val (.long p2), .second, .val (.long p3), .second, .val (.int p4), .val (.int p5), .val (.int v32), .val (.long v36), .second, .val (.long ((((p4 >>> ((2 : Int32) &&& 31)) &&& (3 : Int32)) - (1 : Int32)).toInt64)), .second, .val (.long v41), .second, .val (.int ((p5 &&& (255 : Int32)).toUInt32.toUInt16.toUInt32.toInt32)), .val (.int (((p5 >>> ((8 : Int32) &&& 31)) &&& (255 : Int32)).toUInt32.toUInt16.toUInt32.toInt32)), .val (.int (((p5 >>> ((16 : Int32) &&& 31)) &&& (255 : Int32)).toUInt32.toUInt16.toUInt32.toInt32)), .val (.int (((p5 >>> ((24 : Int32) &&& 31)) &&& (255 : Int32)).toUInt32.toUInt16.toUInt32.toInt32)), .val (.ref b44), .unset, .unset, .unset, .unset] [(.ref b77)]))) st77 ?_
    have f80 : Old Z n0 h77 := f72.ext E77
    have f81 : Exa Z h77 b44 "java/lang/String" := f73.ext E77
    have f82 : own_Ar Z h77 b49 .char 2 (own_I (own_set (own_set (fun _ => (0 : Int32)) 0 (nar .char ((p5 &&& (255 : Int32)).toUInt32.toUInt16.toUInt32.toInt32))) 1 (nar .char (((p5 >>> ((8 : Int32) &&& 31)) &&& (255 : Int32)).toUInt32.toUInt16.toUInt32.toInt32)))) := f74.ext E77
    have z83 : n0 ≤ h77.size := Nat.le_trans z75 E77.1
    have f84 : Fld Z h77 b77 "java/lang/String" "coder" "B" (.int (0 : Int32)) := D77 (Or.inr (hw _ (List.mem_of_getElem? (i := 27) rfl))) (ty := .byte) (by decide)
    have f85 : Fld Z h77 b77 "java/lang/String" "value" "[B" .null := D77 (Or.inr (hw _ (List.mem_of_getElem? (i := 29) rfl))) (ty := (.array .byte)) (by decide)
    refine own_Go.of (S' := (T77.setTop (mkF m 158 #[.val (.long p0), .second, .val (.long p1), .second, .val (.long p2), .second, .val (.long p3), .second, .val (.int p4), .val (.int p5), .val (.int v32), .val (.long v36), .second, .val (.long ((((p4 >>> ((2 : Int32) &&& 31)) &&& (3 : Int32)) - (1 : Int32)).toInt64)), .second, .val (.long v41), .second, .val (.int ((p5 &&& (255 : Int32)).toUInt32.toUInt16.toUInt32.toInt32)), .val (.int (((p5 >>> ((8 : Int32) &&& 31)) &&& (255 : Int32)).toUInt32.toUInt16.toUInt32.toInt32)), .val (.int (((p5 >>> ((16 : Int32) &&& 31)) &&& (255 : Int32)).toUInt32.toUInt16.toUInt32.toInt32)), .val (.int (((p5 >>> ((24 : Int32) &&& 31)) &&& (255 : Int32)).toUInt32.toUInt16.toUInt32.toInt32)), .val (.ref b44), .unset, .unset, .unset, .unset] [(.int (2 : Int32)), (.ref b77), (.ref b77)]))) (fun t kt => ?_) ?_
    · show Steps p.tables e below (T77.setTop (mkF m 156 #[.val (.long p0), .second, .val (.long p1), .second, .val (.long p2), .second, .val (.long p3), .second, .val (.int p4), .val (.int p5), .val (.int v32), .val (.long v36), .second, .val (.long ((((p4 >>> ((2 : Int32) &&& 31)) &&& (3 : Int32)) - (1 : Int32)).toInt64)), .second, .val (.long v41), .second, .val (.int ((p5 &&& (255 : Int32)).toUInt32.toUInt16.toUInt32.toInt32)), .val (.int (((p5 >>> ((8 : Int32) &&& 31)) &&& (255 : Int32)).toUInt32.toUInt16.toUInt32.toInt32)), .val (.int (((p5 >>> ((16 : Int32) &&& 31)) &&& (255 : Int32)).toUInt32.toUInt16.toUInt32.toInt32)), .val (.int (((p5 >>> ((24 : Int32) &&& 31)) &&& (255 : Int32)).toUInt32.toUInt16.toUInt32.toInt32)), .val (.ref b44), .unset, .unset, .unset, .unset] [(.ref b77)])) _
      refine XS.dup X77.here hx rfl (own_hb hby at_156) rfl rfl ?_
      show Steps p.tables e below (T77.setTop (mkF m 157 #[.val (.long p0), .second, .val (.long p1), .second, .val (.long p2), .second, .val (.long p3), .second, .val (.int p4), .val (.int p5), .val (.int v32), .val (.long v36), .second, .val (.long ((((p4 >>> ((2 : Int32) &&& 31)) &&& (3 : Int32)) - (1 : Int32)).toInt64)), .second, .val (.long v41), .second, .val (.int ((p5 &&& (255 : Int32)).toUInt32.toUInt16.toUInt32.toInt32)), .val (.int (((p5 >>> ((8 : Int32) &&& 31)) &&& (255 : Int32)).toUInt32.toUInt16.toUInt32.toInt32)), .val (.int (((p5 >>> ((16 : Int32) &&& 31)) &&& (255 : Int32)).toUInt32.toUInt16.toUInt32.toInt32)), .val (.int (((p5 >>> ((24 : Int32) &&& 31)) &&& (255 : Int32)).toUInt32.toUInt16.toUInt32.toInt32)), .val (.ref b44), .unset, .unset, .unset, .unset] [(.ref b77), (.ref b77)])) _
      refine XS.iconst X77.here hx rfl (own_hb hby at_157) ?_
      exact kt
    obtain ⟨T86, h86, X86, e86, E86, A86, st86⟩ := own_newP X77 hx hZ (hw _ (List.mem_of_getElem? (i := 3) rfl)) e77 (g := (mkF m 158 #[.val (.long p0), .second, .val (.long p1), .second, .val (.long p2), .second, .val (.long p3), .second, .val (.int p4), .val (.int p5), .val (.int v32), .val (.long v36), .second, .val (.long ((((p4 >>> ((2 : Int32) &&& 31)) &&& (3 : Int32)) - (1 : Int32)).toInt64)), .second, .val (.long v41), .second, .val (.int ((p5 &&& (255 : Int32)).toUInt32.toUInt16.toUInt32.toInt32)), .val (.int (((p5 >>> ((8 : Int32) &&& 31)) &&& (255 : Int32)).toUInt32.toUInt16.toUInt32.toInt32)), .val (.int (((p5 >>> ((16 : Int32) &&& 31)) &&& (255 : Int32)).toUInt32.toUInt16.toUInt32.toInt32)), .val (.int (((p5 >>> ((24 : Int32) &&& 31)) &&& (255 : Int32)).toUInt32.toUInt16.toUInt32.toInt32)), .val (.ref b44), .unset, .unset, .unset, .unset] [(.int (2 : Int32)), (.ref b77), (.ref b77)])) rfl (own_hb hby at_158) rfl (n := 2) (cap := 2) rfl (by decide) (by decide) (by decide) (by decide)
    obtain ⟨b86, g86⟩ : ∃ z, z = h77.size := ⟨_, rfl⟩
    rw [← g86] at A86 st86
    have gx86 : n0 ≤ b86 := Nat.le_trans z83 (Nat.le_of_eq g86.symm)
    have ne87 : b44 ≠ b86 := Nat.ne_of_lt (Nat.lt_of_lt_of_le f81.lt (Nat.le_of_eq g86.symm))
    have ne88 : b49 ≠ b86 := Nat.ne_of_lt (Nat.lt_of_lt_of_le f82.lt (Nat.le_of_eq g86.symm))
    have ne89 : b77 ≠ b86 := Nat.ne_of_lt (Nat.lt_of_lt_of_le A77.lt (Nat.le_of_eq g86.symm))
    refine own_Go.of (S' := (T86.setTop (mkF m 160 #[.val (.long p0), .second, .val (.long p1), .second, .val (.long p2), .second, .val (.long p3), .second, .val (.int p4), .val (.int p5), .val (.int v32), .val (.long v36), .second, .val (.long ((((p4 >>> ((2 : Int32) &&& 31)) &&& (3 : Int32)) - (1 : Int32)).toInt64)), .second, .val (.long v41), .second, .val (.int ((p5 &&& (255 : Int32)).toUInt32.toUInt16.toUInt32.toInt32)), .val (.int (((p5 >>> ((8 : Int32) &&& 31)) &&& (255 : Int32)).toUInt32.toUInt16.toUInt32.toInt32)), .val (.int (((p5 >>> ((16 : Int32) &&& 31)) &&& (255 : Int32)).toUInt32.toUInt16.toUInt32.toInt32)), .val (.int (((p5 >>> ((24 : Int32) &&& 31)) &&& (255 : Int32)).toUInt32.toUInt16.toUInt32.toInt32)), .val (.ref b44), .unset, .unset, .unset, .unset] [(.ref b86), (.ref b77), (.ref b77)]))) st86 ?_
    have f90 : Old Z n0 h86 := f80.ext E86
    have f91 : Exa Z h86 b44 "java/lang/String" := f81.ext E86
    have f92 : own_Ar Z h86 b49 .char 2 (own_I (own_set (own_set (fun _ => (0 : Int32)) 0 (nar .char ((p5 &&& (255 : Int32)).toUInt32.toUInt16.toUInt32.toInt32))) 1 (nar .char (((p5 >>> ((8 : Int32) &&& 31)) &&& (255 : Int32)).toUInt32.toUInt16.toUInt32.toInt32)))) := f82.ext E86
    have f93 : Exa Z h86 b77 "java/lang/String" := A77.ext E86
    have f94 : Fld Z h86 b77 "java/lang/String" "coder" "B" (.int (0 : Int32)) := f84.ext E86
    have f95 : Fld Z h86 b77 "java/lang/String" "value" "[B" .null := f85.ext E86
    have z96 : n0 ≤ h86.size := Nat.le_trans z83 E86.1
    have f97 : own_Ar Z h86 b86 .char 2 (own_I (fun _ => (0 : Int32))) := A86
    refine own_Go.of (S' := (T86.setTop (mkF m 164 #[.val (.long p0), .second, .val (.long p1), .second, .val (.long p2), .second, .val (.long p3), .second, .val (.int p4), .val (.int p5), .val (.int v32), .val (.long v36), .second, .val (.long ((((p4 >>> ((2 : Int32) &&& 31)) &&& (3 : Int32)) - (1 : Int32)).toInt64)), .second, .val (.long v41), .second, .val (.int ((p5 &&& (255 : Int32)).toUInt32.toUInt16.toUInt32.toInt32)), .val (.int (((p5 >>> ((8 : Int32) &&& 31)) &&& (255 : Int32)).toUInt32.toUInt16.toUInt32.toInt32)), .val (.int (((p5 >>> ((16 : Int32) &&& 31)) &&& (255 : Int32)).toUInt32.toUInt16.toUInt32.toInt32)), .val (.int (((p5 >>> ((24 : Int32) &&& 31)) &&& (255 : Int32)).toUInt32.toUInt16.toUInt32.toInt32)), .val (.ref b44), .unset, .unset, .unset, .unset] [(.int (((p5 >>> ((16 : Int32) &&& 31)) &&& (255 : Int32)).toUInt32.toUInt16.toUInt32.toInt32)), (.int (0 : Int32)), (.ref b86), (.ref b86), (.ref b77), (.ref b77)]))) (fun t kt => ?_) ?_
    · show Steps p.tables e below (T86.setTop (mkF m 160 #[.val (.long p0), .second, .val (.long p1), .second, .val (.long p2), .second, .val (.long p3), .second, .val (.int p4), .val (.int p5), .val (.int v32), .val (.long v36), .second, .val (.long ((((p4 >>> ((2 : Int32) &&& 31)) &&& (3 : Int32)) - (1 : Int32)).toInt64)), .second, .val (.long v41), .second, .val (.int ((p5 &&& (255 : Int32)).toUInt32.toUInt16.toUInt32.toInt32)), .val (.int (((p5 >>> ((8 : Int32) &&& 31)) &&& (255 : Int32)).toUInt32.toUInt16.toUInt32.toInt32)), .val (.int (((p5 >>> ((16 : Int32) &&& 31)) &&& (255 : Int32)).toUInt32.toUInt16.toUInt32.toInt32)), .val (.int (((p5 >>> ((24 : Int32) &&& 31)) &&& (255 : Int32)).toUInt32.toUInt16.toUInt32.toInt32)), .val (.ref b44), .unset, .unset, .unset, .unset] [(.ref b86), (.ref b77), (.ref b77)])) _
      refine XS.dup X86.here hx rfl (own_hb hby at_160) rfl rfl ?_
      show Steps p.tables e below (T86.setTop (mkF m 161 #[.val (.long p0), .second, .val (.long p1), .second, .val (.long p2), .second, .val (.long p3), .second, .val (.int p4), .val (.int p5), .val (.int v32), .val (.long v36), .second, .val (.long ((((p4 >>> ((2 : Int32) &&& 31)) &&& (3 : Int32)) - (1 : Int32)).toInt64)), .second, .val (.long v41), .second, .val (.int ((p5 &&& (255 : Int32)).toUInt32.toUInt16.toUInt32.toInt32)), .val (.int (((p5 >>> ((8 : Int32) &&& 31)) &&& (255 : Int32)).toUInt32.toUInt16.toUInt32.toInt32)), .val (.int (((p5 >>> ((16 : Int32) &&& 31)) &&& (255 : Int32)).toUInt32.toUInt16.toUInt32.toInt32)), .val (.int (((p5 >>> ((24 : Int32) &&& 31)) &&& (255 : Int32)).toUInt32.toUInt16.toUInt32.toInt32)), .val (.ref b44), .unset, .unset, .unset, .unset] [(.ref b86), (.ref b86), (.ref b77), (.ref b77)])) _
      refine XS.iconst X86.here hx rfl (own_hb hby at_161) ?_
      show Steps p.tables e below (T86.setTop (mkF m 162 #[.val (.long p0), .second, .val (.long p1), .second, .val (.long p2), .second, .val (.long p3), .second, .val (.int p4), .val (.int p5), .val (.int v32), .val (.long v36), .second, .val (.long ((((p4 >>> ((2 : Int32) &&& 31)) &&& (3 : Int32)) - (1 : Int32)).toInt64)), .second, .val (.long v41), .second, .val (.int ((p5 &&& (255 : Int32)).toUInt32.toUInt16.toUInt32.toInt32)), .val (.int (((p5 >>> ((8 : Int32) &&& 31)) &&& (255 : Int32)).toUInt32.toUInt16.toUInt32.toInt32)), .val (.int (((p5 >>> ((16 : Int32) &&& 31)) &&& (255 : Int32)).toUInt32.toUInt16.toUInt32.toInt32)), .val (.int (((p5 >>> ((24 : Int32) &&& 31)) &&& (255 : Int32)).toUInt32.toUInt16.toUInt32.toInt32)), .val (.ref b44), .unset, .unset, .unset, .unset] [(.int (0 : Int32)), (.ref b86), (.ref b86), (.ref b77), (.ref b77)])) _
      refine XS.iload X86.here hx rfl (own_hb hby at_162) rfl ?_
      exact kt
    obtain ⟨cl98, Ar98, hin98, ub98⟩ := own_Ar.put (j := (0 : Int32)) (k := 0) f97 ⟨rfl, by decide⟩
    obtain ⟨T98, h98, X98, e98, W98, st98⟩ := stC X86 hx hZ e86 Ar98 (j := (0 : Int32)) hin98 (g := (mkF m 164 #[.val (.long p0), .second, .val (.long p1), .second, .val (.long p2), .second, .val (.long p3), .second, .val (.int p4), .val (.int p5), .val (.int v32), .val (.long v36), .second, .val (.long ((((p4 >>> ((2 : Int32) &&& 31)) &&& (3 : Int32)) - (1 : Int32)).toInt64)), .second, .val (.long v41), .second, .val (.int ((p5 &&& (255 : Int32)).toUInt32.toUInt16.toUInt32.toInt32)), .val (.int (((p5 >>> ((8 : Int32) &&& 31)) &&& (255 : Int32)).toUInt32.toUInt16.toUInt32.toInt32)), .val (.int (((p5 >>> ((16 : Int32) &&& 31)) &&& (255 : Int32)).toUInt32.toUInt16.toUInt32.toInt32)), .val (.int (((p5 >>> ((24 : Int32) &&& 31)) &&& (255 : Int32)).toUInt32.toUInt16.toUInt32.toInt32)), .val (.ref b44), .unset, .unset, .unset, .unset] [(.int (((p5 >>> ((16 : Int32) &&& 31)) &&& (255 : Int32)).toUInt32.toUInt16.toUInt32.toInt32)), (.int (0 : Int32)), (.ref b86), (.ref b86), (.ref b77), (.ref b77)])) rfl rfl (own_hb hby at_164)
    refine own_Go.of (S' := (T98.setTop (mkF m 165 #[.val (.long p0), .second, .val (.long p1), .second, .val (.long p2), .second, .val (.long p3), .second, .val (.int p4), .val (.int p5), .val (.int v32), .val (.long v36), .second, .val (.long ((((p4 >>> ((2 : Int32) &&& 31)) &&& (3 : Int32)) - (1 : Int32)).toInt64)), .second, .val (.long v41), .second, .val (.int ((p5 &&& (255 : Int32)).toUInt32.toUInt16.toUInt32.toInt32)), .val (.int (((p5 >>> ((8 : Int32) &&& 31)) &&& (255 : Int32)).toUInt32.toUInt16.toUInt32.toInt32)), .val (.int (((p5 >>> ((16 : Int32) &&& 31)) &&& (255 : Int32)).toUInt32.toUInt16.toUInt32.toInt32)), .val (.int (((p5 >>> ((24 : Int32) &&& 31)) &&& (255 : Int32)).toUInt32.toUInt16.toUInt32.toInt32)), .val (.ref b44), .unset, .unset, .unset, .unset] [(.ref b86), (.ref b77), (.ref b77)]))) st98 ?_
    have f99 : Old Z n0 h98 := f90.wr W98 gx86
    have f100 : Exa Z h98 b44 "java/lang/String" := f91.wr W98
    have f101 : own_Ar Z h98 b49 .char 2 (own_I (own_set (own_set (fun _ => (0 : Int32)) 0 (nar .char ((p5 &&& (255 : Int32)).toUInt32.toUInt16.toUInt32.toInt32))) 1 (nar .char (((p5 >>> ((8 : Int32) &&& 31)) &&& (255 : Int32)).toUInt32.toUInt16.toUInt32.toInt32)))) := f92.other W98 ne88
    have f102 : Exa Z h98 b77 "java/lang/String" := f93.wr W98
    have f103 : Fld Z h98 b77 "java/lang/String" "coder" "B" (.int (0 : Int32)) := f94.other W98 (Or.inl ne89)
    have f104 : Fld Z h98 b77 "java/lang/String" "value" "[B" .null := f95.other W98 (Or.inl ne89)
    have z105 : n0 ≤ h98.size := Nat.le_trans z96 (Keep.of_wr W98).1
    have f106 : own_Ar Z h98 b86 .char 2 (own_I (own_set (fun _ => (0 : Int32)) 0 (nar .char (((p5 >>> ((16 : Int32) &&& 31)) &&& (255 : Int32)).toUInt32.toUInt16.toUInt32.toInt32)))) := by rw [← own_upI]; exact ub98 (fits_nar_char _) W98
    have N98 := Fr.snoc X98 N71 gx86
    refine own_Go.of (S' := (T98.setTop (mkF m 169 #[.val (.long p0), .second, .val (.long p1), .second, .val (.long p2), .second, .val (.long p3), .second, .val (.int p4), .val (.int p5), .val (.int v32), .val (.long v36), .second, .val (.long ((((p4 >>> ((2 : Int32) &&& 31)) &&& (3 : Int32)) - (1 : Int32)).toInt64)), .second, .val (.long v41), .second, .val (.int ((p5 &&& (255 : Int32)).toUInt32.toUInt16.toUInt32.toInt32)), .val (.int (((p5 >>> ((8 : Int32) &&& 31)) &&& (255 : Int32)).toUInt32.toUInt16.toUInt32.toInt32)), .val (.int (((p5 >>> ((16 : Int32) &&& 31)) &&& (255 : Int32)).toUInt32.toUInt16.toUInt32.toInt32)), .val (.int (((p5 >>> ((24 : Int32) &&& 31)) &&& (255 : Int32)).toUInt32.toUInt16.toUInt32.toInt32)), .val (.ref b44), .unset, .unset, .unset, .unset] [(.int (((p5 >>> ((24 : Int32) &&& 31)) &&& (255 : Int32)).toUInt32.toUInt16.toUInt32.toInt32)), (.int (1 : Int32)), (.ref b86), (.ref b86), (.ref b77), (.ref b77)]))) (fun t kt => ?_) ?_
    · show Steps p.tables e below (T98.setTop (mkF m 165 #[.val (.long p0), .second, .val (.long p1), .second, .val (.long p2), .second, .val (.long p3), .second, .val (.int p4), .val (.int p5), .val (.int v32), .val (.long v36), .second, .val (.long ((((p4 >>> ((2 : Int32) &&& 31)) &&& (3 : Int32)) - (1 : Int32)).toInt64)), .second, .val (.long v41), .second, .val (.int ((p5 &&& (255 : Int32)).toUInt32.toUInt16.toUInt32.toInt32)), .val (.int (((p5 >>> ((8 : Int32) &&& 31)) &&& (255 : Int32)).toUInt32.toUInt16.toUInt32.toInt32)), .val (.int (((p5 >>> ((16 : Int32) &&& 31)) &&& (255 : Int32)).toUInt32.toUInt16.toUInt32.toInt32)), .val (.int (((p5 >>> ((24 : Int32) &&& 31)) &&& (255 : Int32)).toUInt32.toUInt16.toUInt32.toInt32)), .val (.ref b44), .unset, .unset, .unset, .unset] [(.ref b86), (.ref b77), (.ref b77)])) _
      refine XS.dup X98.here hx rfl (own_hb hby at_165) rfl rfl ?_
      show Steps p.tables e below (T98.setTop (mkF m 166 #[.val (.long p0), .second, .val (.long p1), .second, .val (.long p2), .second, .val (.long p3), .second, .val (.int p4), .val (.int p5), .val (.int v32), .val (.long v36), .second, .val (.long ((((p4 >>> ((2 : Int32) &&& 31)) &&& (3 : Int32)) - (1 : Int32)).toInt64)), .second, .val (.long v41), .second, .val (.int ((p5 &&& (255 : Int32)).toUInt32.toUInt16.toUInt32.toInt32)), .val (.int (((p5 >>> ((8 : Int32) &&& 31)) &&& (255 : Int32)).toUInt32.toUInt16.toUInt32.toInt32)), .val (.int (((p5 >>> ((16 : Int32) &&& 31)) &&& (255 : Int32)).toUInt32.toUInt16.toUInt32.toInt32)), .val (.int (((p5 >>> ((24 : Int32) &&& 31)) &&& (255 : Int32)).toUInt32.toUInt16.toUInt32.toInt32)), .val (.ref b44), .unset, .unset, .unset, .unset] [(.ref b86), (.ref b86), (.ref b77), (.ref b77)])) _
      refine XS.iconst X98.here hx rfl (own_hb hby at_166) ?_
      show Steps p.tables e below (T98.setTop (mkF m 167 #[.val (.long p0), .second, .val (.long p1), .second, .val (.long p2), .second, .val (.long p3), .second, .val (.int p4), .val (.int p5), .val (.int v32), .val (.long v36), .second, .val (.long ((((p4 >>> ((2 : Int32) &&& 31)) &&& (3 : Int32)) - (1 : Int32)).toInt64)), .second, .val (.long v41), .second, .val (.int ((p5 &&& (255 : Int32)).toUInt32.toUInt16.toUInt32.toInt32)), .val (.int (((p5 >>> ((8 : Int32) &&& 31)) &&& (255 : Int32)).toUInt32.toUInt16.toUInt32.toInt32)), .val (.int (((p5 >>> ((16 : Int32) &&& 31)) &&& (255 : Int32)).toUInt32.toUInt16.toUInt32.toInt32)), .val (.int (((p5 >>> ((24 : Int32) &&& 31)) &&& (255 : Int32)).toUInt32.toUInt16.toUInt32.toInt32)), .val (.ref b44), .unset, .unset, .unset, .unset] [(.int (1 : Int32)), (.ref b86), (.ref b86), (.ref b77), (.ref b77)])) _
      refine XS.iload X98.here hx rfl (own_hb hby at_167) rfl ?_
      exact kt
    obtain ⟨cl107, Ar107, hin107, ub107⟩ := own_Ar.put (j := (1 : Int32)) (k := 1) f106 ⟨rfl, by decide⟩
    obtain ⟨T107, h107, X107, e107, W107, st107⟩ := stC X98 hx hZ e98 Ar107 (j := (1 : Int32)) hin107 (g := (mkF m 169 #[.val (.long p0), .second, .val (.long p1), .second, .val (.long p2), .second, .val (.long p3), .second, .val (.int p4), .val (.int p5), .val (.int v32), .val (.long v36), .second, .val (.long ((((p4 >>> ((2 : Int32) &&& 31)) &&& (3 : Int32)) - (1 : Int32)).toInt64)), .second, .val (.long v41), .second, .val (.int ((p5 &&& (255 : Int32)).toUInt32.toUInt16.toUInt32.toInt32)), .val (.int (((p5 >>> ((8 : Int32) &&& 31)) &&& (255 : Int32)).toUInt32.toUInt16.toUInt32.toInt32)), .val (.int (((p5 >>> ((16 : Int32) &&& 31)) &&& (255 : Int32)).toUInt32.toUInt16.toUInt32.toInt32)), .val (.int (((p5 >>> ((24 : Int32) &&& 31)) &&& (255 : Int32)).toUInt32.toUInt16.toUInt32.toInt32)), .val (.ref b44), .unset, .unset, .unset, .unset] [(.int (((p5 >>> ((24 : Int32) &&& 31)) &&& (255 : Int32)).toUInt32.toUInt16.toUInt32.toInt32)), (.int (1 : Int32)), (.ref b86), (.ref b86), (.ref b77), (.ref b77)])) rfl rfl (own_hb hby at_169)
    refine own_Go.of (S' := (T107.setTop (mkF m 170 #[.val (.long p0), .second, .val (.long p1), .second, .val (.long p2), .second, .val (.long p3), .second, .val (.int p4), .val (.int p5), .val (.int v32), .val (.long v36), .second, .val (.long ((((p4 >>> ((2 : Int32) &&& 31)) &&& (3 : Int32)) - (1 : Int32)).toInt64)), .second, .val (.long v41), .second, .val (.int ((p5 &&& (255 : Int32)).toUInt32.toUInt16.toUInt32.toInt32)), .val (.int (((p5 >>> ((8 : Int32) &&& 31)) &&& (255 : Int32)).toUInt32.toUInt16.toUInt32.toInt32)), .val (.int (((p5 >>> ((16 : Int32) &&& 31)) &&& (255 : Int32)).toUInt32.toUInt16.toUInt32.toInt32)), .val (.int (((p5 >>> ((24 : Int32) &&& 31)) &&& (255 : Int32)).toUInt32.toUInt16.toUInt32.toInt32)), .val (.ref b44), .unset, .unset, .unset, .unset] [(.ref b86), (.ref b77), (.ref b77)]))) st107 ?_
    have f108 : Old Z n0 h107 := f99.wr W107 gx86
    have f109 : Exa Z h107 b44 "java/lang/String" := f100.wr W107
    have f110 : own_Ar Z h107 b49 .char 2 (own_I (own_set (own_set (fun _ => (0 : Int32)) 0 (nar .char ((p5 &&& (255 : Int32)).toUInt32.toUInt16.toUInt32.toInt32))) 1 (nar .char (((p5 >>> ((8 : Int32) &&& 31)) &&& (255 : Int32)).toUInt32.toUInt16.toUInt32.toInt32)))) := f101.other W107 ne88
    have f111 : Exa Z h107 b77 "java/lang/String" := f102.wr W107
    have f112 : Fld Z h107 b77 "java/lang/String" "coder" "B" (.int (0 : Int32)) := f103.other W107 (Or.inl ne89)
    have f113 : Fld Z h107 b77 "java/lang/String" "value" "[B" .null := f104.other W107 (Or.inl ne89)
    have z114 : n0 ≤ h107.size := Nat.le_trans z105 (Keep.of_wr W107).1
    have f115 : own_Ar Z h107 b86 .char 2 (own_I (own_set (own_set (fun _ => (0 : Int32)) 0 (nar .char (((p5 >>> ((16 : Int32) &&& 31)) &&& (255 : Int32)).toUInt32.toUInt16.toUInt32.toInt32))) 1 (nar .char (((p5 >>> ((24 : Int32) &&& 31)) &&& (255 : Int32)).toUInt32.toUInt16.toUInt32.toInt32)))) := by rw [← own_upI]; exact ub107 (fits_nar_char _) W107
    have N107 := Fr.snoc X107 N98 gx86
    obtain ⟨kC116, VA116⟩ := f115.arv .null
    have VB116 : Arv Z h107 b86 kC116 .char (2 : Int32) ([(nar .char (((p5 >>> ((16 : Int32) &&& 31)) &&& (255 : Int32)).toUInt32.toUInt16.toUInt32.toInt32)), (nar .char (((p5 >>> ((24 : Int32) &&& 31)) &&& (255 : Int32)).toUInt32.toUInt16.toUInt32.toInt32))].map Value.int) .null := VA116
    obtain ⟨_, _, ⟨T116, L116, k116, n116⟩, -, X116, ⟨Lc116, hQ116, l116, y116, z116⟩, st116⟩ := X107.specialBack hx (y := (⟨"java/lang/String", "<init>", "([C)V"⟩ : MethodName)) rfl hown (mvT hZ (hw _ (List.mem_of_getElem? (i := 4) rfl))) (mvT hZ (hw _ (List.mem_of_getElem? (i := 5) rfl))) (mvT hZ (hw _ (List.mem_of_getElem? (i := 6) rfl))) (by decide) (StrChars.Road.backV (W := 1) hZ hws (kI := 4) (hw _ (List.mem_of_getElem? (i := 1) rfl)) (cs := [(nar .char (((p5 >>> ((16 : Int32) &&& 31)) &&& (255 : Int32)).toUInt32.toUInt16.toUInt32.toInt32)), (nar .char (((p5 >>> ((24 : Int32) &&& 31)) &&& (255 : Int32)).toUInt32.toUInt16.toUInt32.toInt32))]) (bs := [((nar .char (((p5 >>> ((16 : Int32) &&& 31)) &&& (255 : Int32)).toUInt32.toUInt16.toUInt32.toInt32))).toInt8.toInt32, ((nar .char (((p5 >>> ((24 : Int32) &&& 31)) &&& (255 : Int32)).toUInt32.toUInt16.toUInt32.toInt32))).toInt8.toInt32]) (n := 2) gx77 z114 f111 f113 f112 VB116 (hS.ext f108.2) hz rfl rfl (by decide) (by decide) (own_lat2 _ _) rfl (by decide) (by decide)) (g := (mkF m 170 #[.val (.long p0), .second, .val (.long p1), .second, .val (.long p2), .second, .val (.long p3), .second, .val (.int p4), .val (.int p5), .val (.int v32), .val (.long v36), .second, .val (.long ((((p4 >>> ((2 : Int32) &&& 31)) &&& (3 : Int32)) - (1 : Int32)).toInt64)), .second, .val (.long v41), .second, .val (.int ((p5 &&& (255 : Int32)).toUInt32.toUInt16.toUInt32.toInt32)), .val (.int (((p5 >>> ((8 : Int32) &&& 31)) &&& (255 : Int32)).toUInt32.toUInt16.toUInt32.toInt32)), .val (.int (((p5 >>> ((16 : Int32) &&& 31)) &&& (255 : Int32)).toUInt32.toUInt16.toUInt32.toInt32)), .val (.int (((p5 >>> ((24 : Int32) &&& 31)) &&& (255 : Int32)).toUInt32.toUInt16.toUInt32.toInt32)), .val (.ref b44), .unset, .unset, .unset, .unset] [(.ref b86), (.ref b77), (.ref b77)])) rfl (by rw [hml]; rfl) (Steps.refl _) (a := b77) (argsL := [(.ref b86)]) (rest := [(.ref b77)]) (lenOf pd_1 rfl) rfl (by show 2 * 0 + _ ≤ _; exact Nat.le_of_eq rfl) (own_hb hby at_170) (fun _ _ => ⟨rfl, e107, (by decide : 5 + 1 ≤ _), (by decide : 14 + 2 ≤ _)⟩)
    dsimp only [Pt.U, Pt.locs, Pt.cells, Pt.slots] at X116 l116 y116 z116 st116 hQ116
    subst l116 y116 z116
    obtain ⟨rfl, N116q, K116, -⟩ := hQ116
    have N116 := Fr.app N107 N116q
    refine own_Go.of (S' := (T116.setTop (mkF m 173 #[.val (.long p0), .second, .val (.long p1), .second, .val (.long p2), .second, .val (.long p3), .second, .val (.int p4), .val (.int p5), .val (.int v32), .val (.long v36), .second, .val (.long ((((p4 >>> ((2 : Int32) &&& 31)) &&& (3 : Int32)) - (1 : Int32)).toInt64)), .second, .val (.long v41), .second, .val (.int ((p5 &&& (255 : Int32)).toUInt32.toUInt16.toUInt32.toInt32)), .val (.int (((p5 >>> ((8 : Int32) &&& 31)) &&& (255 : Int32)).toUInt32.toUInt16.toUInt32.toInt32)), .val (.int (((p5 >>> ((16 : Int32) &&& 31)) &&& (255 : Int32)).toUInt32.toUInt16.toUInt32.toInt32)), .val (.int (((p5 >>> ((24 : Int32) &&& 31)) &&& (255 : Int32)).toUInt32.toUInt16.toUInt32.toInt32)), .val (.ref b44), .unset, .unset, .unset, .unset] [(.ref b77)]))) (fun t kt => st116.trans kt) ?_
    have f117 : Old Z n0 T116.heap := f108.keep K116 (allS gx77 all0)
    have f118 : Exa Z T116.heap b44 "java/lang/String" := f109.keep K116
    have f119 : own_Ar Z T116.heap b49 .char 2 (own_I (own_set (own_set (fun _ => (0 : Int32)) 0 (nar .char ((p5 &&& (255 : Int32)).toUInt32.toUInt16.toUInt32.toInt32))) 1 (nar .char (((p5 >>> ((8 : Int32) &&& 31)) &&& (255 : Int32)).toUInt32.toUInt16.toUInt32.toInt32)))) := f110.keep K116 (ninS ne79 nin0)
    have f120 : Exa Z T116.heap b77 "java/lang/String" := f111.keep K116
    have f121 : own_Ar Z T116.heap b86 .char 2 (own_I (own_set (own_set (fun _ => (0 : Int32)) 0 (nar .char (((p5 >>> ((16 : Int32) &&& 31)) &&& (255 : Int32)).toUInt32.toUInt16.toUInt32.toInt32))) 1 (nar .char (((p5 >>> ((24 : Int32) &&& 31)) &&& (255 : Int32)).toUInt32.toUInt16.toUInt32.toInt32)))) := f115.keep K116 (ninS (Ne.symm ne89) nin0)
    have z122 : n0 ≤ T116.heap.size := Nat.le_trans z114 K116.1
    refine own_Go.of (S' := (T116.setTop (mkF m 175 #[.val (.long p0), .second, .val (.long p1), .second, .val (.long p2), .second, .val (.long p3), .second, .val (.int p4), .val (.int p5), .val (.int v32), .val (.long v36), .second, .val (.long ((((p4 >>> ((2 : Int32) &&& 31)) &&& (3 : Int32)) - (1 : Int32)).toInt64)), .second, .val (.long v41), .second, .val (.int ((p5 &&& (255 : Int32)).toUInt32.toUInt16.toUInt32.toInt32)), .val (.int (((p5 >>> ((8 : Int32) &&& 31)) &&& (255 : Int32)).toUInt32.toUInt16.toUInt32.toInt32)), .val (.int (((p5 >>> ((16 : Int32) &&& 31)) &&& (255 : Int32)).toUInt32.toUInt16.toUInt32.toInt32)), .val (.int (((p5 >>> ((24 : Int32) &&& 31)) &&& (255 : Int32)).toUInt32.toUInt16.toUInt32.toInt32)), .val (.ref b44), .val (.ref b77), .unset, .unset, .unset] []))) (fun t kt => ?_) ?_
    · show Steps p.tables e below (T116.setTop (mkF m 173 #[.val (.long p0), .second, .val (.long p1), .second, .val (.long p2), .second, .val (.long p3), .second, .val (.int p4), .val (.int p5), .val (.int v32), .val (.long v36), .second, .val (.long ((((p4 >>> ((2 : Int32) &&& 31)) &&& (3 : Int32)) - (1 : Int32)).toInt64)), .second, .val (.long v41), .second, .val (.int ((p5 &&& (255 : Int32)).toUInt32.toUInt16.toUInt32.toInt32)), .val (.int (((p5 >>> ((8 : Int32) &&& 31)) &&& (255 : Int32)).toUInt32.toUInt16.toUInt32.toInt32)), .val (.int (((p5 >>> ((16 : Int32) &&& 31)) &&& (255 : Int32)).toUInt32.toUInt16.toUInt32.toInt32)), .val (.int (((p5 >>> ((24 : Int32) &&& 31)) &&& (255 : Int32)).toUInt32.toUInt16.toUInt32.toInt32)), .val (.ref b44), .unset, .unset, .unset, .unset] [(.ref b77)])) _
      refine XS.astore X116.here hx rfl (own_hb hby at_173) rfl rfl (l' := #[.val (.long p0), .second, .val (.long p1), .second, .val (.long p2), .second, .val (.long p3), .second, .val (.int p4), .val (.int p5), .val (.int v32), .val (.long v36), .second, .val (.long ((((p4 >>> ((2 : Int32) &&& 31)) &&& (3 : Int32)) - (1 : Int32)).toInt64)), .second, .val (.long v41), .second, .val (.int ((p5 &&& (255 : Int32)).toUInt32.toUInt16.toUInt32.toInt32)), .val (.int (((p5 >>> ((8 : Int32) &&& 31)) &&& (255 : Int32)).toUInt32.toUInt16.toUInt32.toInt32)), .val (.int (((p5 >>> ((16 : Int32) &&& 31)) &&& (255 : Int32)).toUInt32.toUInt16.toUInt32.toInt32)), .val (.int (((p5 >>> ((24 : Int32) &&& 31)) &&& (255 : Int32)).toUInt32.toUInt16.toUInt32.toInt32)), .val (.ref b44), .val (.ref b77), .unset, .unset, .unset]) rfl ?_
      exact kt
    obtain ⟨T123, h123, X123, e123, E123, A123, D123, -, st123⟩ := newO X116 hx hZ hown (hw _ (List.mem_of_getElem? (i := 30) rfl)) (hw _ (List.mem_of_getElem? (i := 31) rfl)) (hw _ (List.mem_of_getElem? (i := 32) rfl)) rfl (g := (mkF m 175 #[.val (.long p0), .second, .val (.long p1), .second, .val (.long p2), .second, .val (.long p3), .second, .val (.int p4), .val (.int p5), .val (.int v32), .val (.long v36), .second, .val (.long ((((p4 >>> ((2 : Int32) &&& 31)) &&& (3 : Int32)) - (1 : Int32)).toInt64)), .second, .val (.long v41), .second, .val (.int ((p5 &&& (255 : Int32)).toUInt32.toUInt16.toUInt32.toInt32)), .val (.int (((p5 >>> ((8 : Int32) &&& 31)) &&& (255 : Int32)).toUInt32.toUInt16.toUInt32.toInt32)), .val (.int (((p5 >>> ((16 : Int32) &&& 31)) &&& (255 : Int32)).toUInt32.toUInt16.toUInt32.toInt32)), .val (.int (((p5 >>> ((24 : Int32) &&& 31)) &&& (255 : Int32)).toUInt32.toUInt16.toUInt32.toInt32)), .val (.ref b44), .val (.ref b77), .unset, .unset, .unset] [])) rfl (own_hb hby at_175) (by decide) (by decide)
    obtain ⟨b123, g123⟩ : ∃ z, z = T116.heap.size := ⟨_, rfl⟩
    rw [← g123] at A123 D123 st123
    have gx123 : n0 ≤ b123 := Nat.le_trans z122 (Nat.le_of_eq g123.symm)
    have ne124 : b44 ≠ b123 := Nat.ne_of_lt (Nat.lt_of_lt_of_le f118.lt (Nat.le_of_eq g123.symm))
    have ne125 : b49 ≠ b123 := Nat.ne_of_lt (Nat.lt_of_lt_of_le f119.lt (Nat.le_of_eq g123.symm))
    have ne126 : b77 ≠ b123 := Nat.ne_of_lt (Nat.lt_of_lt_of_le f120.lt (Nat.le_of_eq g123.symm))
    have ne127 : b86 ≠ b123 := Nat.ne_of_lt (Nat.lt_of_lt_of_le f121.lt (Nat.le_of_eq g123.symm))
    refine own_Go.of (S' := (T123.setTop (mkF m 178 #[.val (.long p0), .second, .val (.long p1), .second, .val (.long p2), .second, .val (.long p3), .second, .val (.int p4), .val (.int p5), .val (.int v32), .val (.long v36), .second, .val (.long ((((p4 >>> ((2 : Int32) &&& 31)) &&& (3 : Int32)) - (1 : Int32)).toInt64)), .second, .val (.long v41), .second, .val (.int ((p5 &&& (255 : Int32)).toUInt32.toUInt16.toUInt32.toInt32)), .val (.int (((p5 >>> ((8 : Int32) &&& 31)) &&& (255 : Int32)).toUInt32.toUInt16.toUInt32.toInt32)), .val (.int (((p5 >>> ((16 : Int32) &&& 31)) &&& (255 : Int32)).toUInt32.toUInt16.toUInt32.toInt32)), .val (.int (((p5 >>> ((24 : Int32) &&& 31)) &&& (255 : Int32)).toUInt32.toUInt16.toUInt32.toInt32)), .val (.ref b44), .val (.ref b77), .unset, .unset, .unset] [(.ref b123)]))) st123 ?_
    have f128 : Old Z n0 h123 := f117.ext E123
    have f129 : Exa Z h123 b44 "java/lang/String" := f118.ext E123
    have f130 : own_Ar Z h123 b49 .char 2 (own_I (own_set (own_set (fun _ => (0 : Int32)) 0 (nar .char ((p5 &&& (255 : Int32)).toUInt32.toUInt16.toUInt32.toInt32))) 1 (nar .char (((p5 >>> ((8 : Int32) &&& 31)) &&& (255 : Int32)).toUInt32.toUInt16.toUInt32.toInt32)))) := f119.ext E123
    have f131 : Exa Z h123 b77 "java/lang/String" := f120.ext E123
    have f132 : own_Ar Z h123 b86 .char 2 (own_I (own_set (own_set (fun _ => (0 : Int32)) 0 (nar .char (((p5 >>> ((16 : Int32) &&& 31)) &&& (255 : Int32)).toUInt32.toUInt16.toUInt32.toInt32))) 1 (nar .char (((p5 >>> ((24 : Int32) &&& 31)) &&& (255 : Int32)).toUInt32.toUInt16.toUInt32.toInt32)))) := f121.ext E123
    have z133 : n0 ≤ h123.size := Nat.le_trans z122 E123.1
    have f134 : Fld Z h123 b123 "com/example/hearsay/hearsay/community/Stamp" "name" "Ljava/lang/String;" .null := D123 (Or.inr (hw _ (List.mem_of_getElem? (i := 43) rfl))) (ty := (.object "java/lang/String")) (by decide)
    have f135 : Fld Z h123 b123 "com/example/hearsay/hearsay/community/Stamp" "identity" "J" (.long (0 : Int64)) := D123 (Or.inr (hw _ (List.mem_of_getElem? (i := 45) rfl))) (ty := .long) (by decide)
    have f136 : Fld Z h123 b123 "com/example/hearsay/hearsay/community/Stamp" "version" "J" (.long (0 : Int64)) := D123 (Or.inr (hw _ (List.mem_of_getElem? (i := 47) rfl))) (ty := .long) (by decide)
    refine own_Go.of (S' := (T123.setTop (mkF m 184 #[.val (.long p0), .second, .val (.long p1), .second, .val (.long p2), .second, .val (.long p3), .second, .val (.int p4), .val (.int p5), .val (.int v32), .val (.long v36), .second, .val (.long ((((p4 >>> ((2 : Int32) &&& 31)) &&& (3 : Int32)) - (1 : Int32)).toInt64)), .second, .val (.long v41), .second, .val (.int ((p5 &&& (255 : Int32)).toUInt32.toUInt16.toUInt32.toInt32)), .val (.int (((p5 >>> ((8 : Int32) &&& 31)) &&& (255 : Int32)).toUInt32.toUInt16.toUInt32.toInt32)), .val (.int (((p5 >>> ((16 : Int32) &&& 31)) &&& (255 : Int32)).toUInt32.toUInt16.toUInt32.toInt32)), .val (.int (((p5 >>> ((24 : Int32) &&& 31)) &&& (255 : Int32)).toUInt32.toUInt16.toUInt32.toInt32)), .val (.ref b44), .val (.ref b77), .unset, .unset, .unset] [(.long p2), (.long p0), (.ref b44), (.ref b123), (.ref b123)]))) (fun t kt => ?_) ?_
    · show Steps p.tables e below (T123.setTop (mkF m 178 #[.val (.long p0), .second, .val (.long p1), .second, .val (.long p2), .second, .val (.long p3), .second, .val (.int p4), .val (.int p5), .val (.int v32), .val (.long v36), .second, .val (.long ((((p4 >>> ((2 : Int32) &&& 31)) &&& (3 : Int32)) - (1 : Int32)).toInt64)), .second, .val (.long v41), .second, .val (.int ((p5 &&& (255 : Int32)).toUInt32.toUInt16.toUInt32.toInt32)), .val (.int (((p5 >>> ((8 : Int32) &&& 31)) &&& (255 : Int32)).toUInt32.toUInt16.toUInt32.toInt32)), .val (.int (((p5 >>> ((16 : Int32) &&& 31)) &&& (255 : Int32)).toUInt32.toUInt16.toUInt32.toInt32)), .val (.int (((p5 >>> ((24 : Int32) &&& 31)) &&& (255 : Int32)).toUInt32.toUInt16.toUInt32.toInt32)), .val (.ref b44), .val (.ref b77), .unset, .unset, .unset] [(.ref b123)])) _
      refine XS.dup X123.here hx rfl (own_hb hby at_178) rfl rfl ?_
      show Steps p.tables e below (T123.setTop (mkF m 179 #[.val (.long p0), .second, .val (.long p1), .second, .val (.long p2), .second, .val (.long p3), .second, .val (.int p4), .val (.int p5), .val (.int v32), .val (.long v36), .second, .val (.long ((((p4 >>> ((2 : Int32) &&& 31)) &&& (3 : Int32)) - (1 : Int32)).toInt64)), .second, .val (.long v41), .second, .val (.int ((p5 &&& (255 : Int32)).toUInt32.toUInt16.toUInt32.toInt32)), .val (.int (((p5 >>> ((8 : Int32) &&& 31)) &&& (255 : Int32)).toUInt32.toUInt16.toUInt32.toInt32)), .val (.int (((p5 >>> ((16 : Int32) &&& 31)) &&& (255 : Int32)).toUInt32.toUInt16.toUInt32.toInt32)), .val (.int (((p5 >>> ((24 : Int32) &&& 31)) &&& (255 : Int32)).toUInt32.toUInt16.toUInt32.toInt32)), .val (.ref b44), .val (.ref b77), .unset, .unset, .unset] [(.ref b123), (.ref b123)])) _
      refine XS.aload X123.here hx rfl (own_hb hby at_179) rfl rfl ?_
      show Steps p.tables e below (T123.setTop (mkF m 181 #[.val (.long p0), .second, .val (.long p1), .second, .val (.long p2), .second, .val (.long p3), .second, .val (.int p4), .val (.int p5), .val (.int v32), .val (.long v36), .second, .val (.long ((((p4 >>> ((2 : Int32) &&& 31)) &&& (3 : Int32)) - (1 : Int32)).toInt64)), .second, .val (.long v41), .second, .val (.int ((p5 &&& (255 : Int32)).toUInt32.toUInt16.toUInt32.toInt32)), .val (.int (((p5 >>> ((8 : Int32) &&& 31)) &&& (255 : Int32)).toUInt32.toUInt16.toUInt32.toInt32)), .val (.int (((p5 >>> ((16 : Int32) &&& 31)) &&& (255 : Int32)).toUInt32.toUInt16.toUInt32.toInt32)), .val (.int (((p5 >>> ((24 : Int32) &&& 31)) &&& (255 : Int32)).toUInt32.toUInt16.toUInt32.toInt32)), .val (.ref b44), .val (.ref b77), .unset, .unset, .unset] [(.ref b44), (.ref b123), (.ref b123)])) _
      refine XS.lloadN X123.here hx rfl (own_hb hby at_181) rfl ?_
      show Steps p.tables e below (T123.setTop (mkF m 182 #[.val (.long p0), .second, .val (.long p1), .second, .val (.long p2), .second, .val (.long p3), .second, .val (.int p4), .val (.int p5), .val (.int v32), .val (.long v36), .second, .val (.long ((((p4 >>> ((2 : Int32) &&& 31)) &&& (3 : Int32)) - (1 : Int32)).toInt64)), .second, .val (.long v41), .second, .val (.int ((p5 &&& (255 : Int32)).toUInt32.toUInt16.toUInt32.toInt32)), .val (.int (((p5 >>> ((8 : Int32) &&& 31)) &&& (255 : Int32)).toUInt32.toUInt16.toUInt32.toInt32)), .val (.int (((p5 >>> ((16 : Int32) &&& 31)) &&& (255 : Int32)).toUInt32.toUInt16.toUInt32.toInt32)), .val (.int (((p5 >>> ((24 : Int32) &&& 31)) &&& (255 : Int32)).toUInt32.toUInt16.toUInt32.toInt32)), .val (.ref b44), .val (.ref b77), .unset, .unset, .unset] [(.long p0), (.ref b44), (.ref b123), (.ref b123)])) _
      refine XS.lload X123.here hx rfl (own_hb hby at_182) rfl ?_
      exact kt
    obtain ⟨_, _, ⟨T137, L137, k137, n137⟩, -, X137, ⟨Lc137, hQ137, l137, y137, z137⟩, st137⟩ := X123.specialBack hx (y := (⟨"com/example/hearsay/hearsay/community/Stamp", "<init>", "(Ljava/lang/String;JJ)V"⟩ : MethodName)) rfl hown (mvT hZ (hw _ (List.mem_of_getElem? (i := 33) rfl))) (mvT hZ (hw _ (List.mem_of_getElem? (i := 34) rfl))) (mvT hZ (hw _ (List.mem_of_getElem? (i := 35) rfl))) (by decide) (backOf (W := 1) (rm7 l Z a0 hw [] b123 b44 p0 p2 .null (.long (0 : Int64)) (.long (0 : Int64)) h123 n0 z133 A123 f134 f135 f136 gx123) hZ (hw _ (List.mem_of_getElem? (i := 35) rfl)) (hw _ (List.mem_of_getElem? (i := 32) rfl)) (by decide) (by decide)) (g := (mkF m 184 #[.val (.long p0), .second, .val (.long p1), .second, .val (.long p2), .second, .val (.long p3), .second, .val (.int p4), .val (.int p5), .val (.int v32), .val (.long v36), .second, .val (.long ((((p4 >>> ((2 : Int32) &&& 31)) &&& (3 : Int32)) - (1 : Int32)).toInt64)), .second, .val (.long v41), .second, .val (.int ((p5 &&& (255 : Int32)).toUInt32.toUInt16.toUInt32.toInt32)), .val (.int (((p5 >>> ((8 : Int32) &&& 31)) &&& (255 : Int32)).toUInt32.toUInt16.toUInt32.toInt32)), .val (.int (((p5 >>> ((16 : Int32) &&& 31)) &&& (255 : Int32)).toUInt32.toUInt16.toUInt32.toInt32)), .val (.int (((p5 >>> ((24 : Int32) &&& 31)) &&& (255 : Int32)).toUInt32.toUInt16.toUInt32.toInt32)), .val (.ref b44), .val (.ref b77), .unset, .unset, .unset] [(.long p2), (.long p0), (.ref b44), (.ref b123), (.ref b123)])) rfl (by rw [hml]; rfl) (Steps.refl _) (a := b123) (argsL := [(.ref b44), (.long p0), (.long p2)]) (rest := [(.ref b123)]) (lenOf pd_2 rfl) rfl (by show 2 * 0 + _ ≤ _; exact Nat.le_of_eq rfl) (own_hb hby at_184) (fun _ _ => ⟨rfl, e123, (by decide : 7 + 0 ≤ _), (by decide : 19 + 0 ≤ _)⟩)
    dsimp only [Pt.U, Pt.locs, Pt.cells, Pt.slots] at X137 l137 y137 z137 st137 hQ137
    subst l137 y137 z137
    obtain ⟨rfl, N137q, K137, p137_0, p137_1, p137_2⟩ := hQ137
    have N137 := Fr.app N116 N137q
    refine own_Go.of (S' := (T137.setTop (mkF m 187 #[.val (.long p0), .second, .val (.long p1), .second, .val (.long p2), .second, .val (.long p3), .second, .val (.int p4), .val (.int p5), .val (.int v32), .val (.long v36), .second, .val (.long ((((p4 >>> ((2 : Int32) &&& 31)) &&& (3 : Int32)) - (1 : Int32)).toInt64)), .second, .val (.long v41), .second, .val (.int ((p5 &&& (255 : Int32)).toUInt32.toUInt16.toUInt32.toInt32)), .val (.int (((p5 >>> ((8 : Int32) &&& 31)) &&& (255 : Int32)).toUInt32.toUInt16.toUInt32.toInt32)), .val (.int (((p5 >>> ((16 : Int32) &&& 31)) &&& (255 : Int32)).toUInt32.toUInt16.toUInt32.toInt32)), .val (.int (((p5 >>> ((24 : Int32) &&& 31)) &&& (255 : Int32)).toUInt32.toUInt16.toUInt32.toInt32)), .val (.ref b44), .val (.ref b77), .unset, .unset, .unset] [(.ref b123)]))) (fun t kt => st137.trans kt) ?_
    have f138 : Old Z n0 T137.heap := f128.keep K137 (allS gx123 all0)
    have f139 : Exa Z T137.heap b44 "java/lang/String" := f129.keep K137
    have f140 : own_Ar Z T137.heap b49 .char 2 (own_I (own_set (own_set (fun _ => (0 : Int32)) 0 (nar .char ((p5 &&& (255 : Int32)).toUInt32.toUInt16.toUInt32.toInt32))) 1 (nar .char (((p5 >>> ((8 : Int32) &&& 31)) &&& (255 : Int32)).toUInt32.toUInt16.toUInt32.toInt32)))) := f130.keep K137 (ninS ne125 nin0)
    have f141 : Exa Z T137.heap b77 "java/lang/String" := f131.keep K137
    have f142 : own_Ar Z T137.heap b86 .char 2 (own_I (own_set (own_set (fun _ => (0 : Int32)) 0 (nar .char (((p5 >>> ((16 : Int32) &&& 31)) &&& (255 : Int32)).toUInt32.toUInt16.toUInt32.toInt32))) 1 (nar .char (((p5 >>> ((24 : Int32) &&& 31)) &&& (255 : Int32)).toUInt32.toUInt16.toUInt32.toInt32)))) := f132.keep K137 (ninS ne127 nin0)
    have f143 : Exa Z T137.heap b123 "com/example/hearsay/hearsay/community/Stamp" := A123.keep K137
    have z144 : n0 ≤ T137.heap.size := Nat.le_trans z133 K137.1
    refine own_Go.of (S' := (T137.setTop (mkF m 189 #[.val (.long p0), .second, .val (.long p1), .second, .val (.long p2), .second, .val (.long p3), .second, .val (.int p4), .val (.int p5), .val (.int v32), .val (.long v36), .second, .val (.long ((((p4 >>> ((2 : Int32) &&& 31)) &&& (3 : Int32)) - (1 : Int32)).toInt64)), .second, .val (.long v41), .second, .val (.int ((p5 &&& (255 : Int32)).toUInt32.toUInt16.toUInt32.toInt32)), .val (.int (((p5 >>> ((8 : Int32) &&& 31)) &&& (255 : Int32)).toUInt32.toUInt16.toUInt32.toInt32)), .val (.int (((p5 >>> ((16 : Int32) &&& 31)) &&& (255 : Int32)).toUInt32.toUInt16.toUInt32.toInt32)), .val (.int (((p5 >>> ((24 : Int32) &&& 31)) &&& (255 : Int32)).toUInt32.toUInt16.toUInt32.toInt32)), .val (.ref b44), .val (.ref b77), .val (.ref b123), .unset, .unset] []))) (fun t kt => ?_) ?_
    · show Steps p.tables e below (T137.setTop (mkF m 187 #[.val (.long p0), .second, .val (.long p1), .second, .val (.long p2), .second, .val (.long p3), .second, .val (.int p4), .val (.int p5), .val (.int v32), .val (.long v36), .second, .val (.long ((((p4 >>> ((2 : Int32) &&& 31)) &&& (3 : Int32)) - (1 : Int32)).toInt64)), .second, .val (.long v41), .second, .val (.int ((p5 &&& (255 : Int32)).toUInt32.toUInt16.toUInt32.toInt32)), .val (.int (((p5 >>> ((8 : Int32) &&& 31)) &&& (255 : Int32)).toUInt32.toUInt16.toUInt32.toInt32)), .val (.int (((p5 >>> ((16 : Int32) &&& 31)) &&& (255 : Int32)).toUInt32.toUInt16.toUInt32.toInt32)), .val (.int (((p5 >>> ((24 : Int32) &&& 31)) &&& (255 : Int32)).toUInt32.toUInt16.toUInt32.toInt32)), .val (.ref b44), .val (.ref b77), .unset, .unset, .unset] [(.ref b123)])) _
      refine XS.astore X137.here hx rfl (own_hb hby at_187) rfl rfl (l' := #[.val (.long p0), .second, .val (.long p1), .second, .val (.long p2), .second, .val (.long p3), .second, .val (.int p4), .val (.int p5), .val (.int v32), .val (.long v36), .second, .val (.long ((((p4 >>> ((2 : Int32) &&& 31)) &&& (3 : Int32)) - (1 : Int32)).toInt64)), .second, .val (.long v41), .second, .val (.int ((p5 &&& (255 : Int32)).toUInt32.toUInt16.toUInt32.toInt32)), .val (.int (((p5 >>> ((8 : Int32) &&& 31)) &&& (255 : Int32)).toUInt32.toUInt16.toUInt32.toInt32)), .val (.int (((p5 >>> ((16 : Int32) &&& 31)) &&& (255 : Int32)).toUInt32.toUInt16.toUInt32.toInt32)), .val (.int (((p5 >>> ((24 : Int32) &&& 31)) &&& (255 : Int32)).toUInt32.toUInt16.toUInt32.toInt32)), .val (.ref b44), .val (.ref b77), .val (.ref b123), .unset, .unset]) rfl ?_
      exact kt
    obtain ⟨T145, h145, X145, e145, E145, A145, D145, -, st145⟩ := newO X137 hx hZ hown (hw _ (List.mem_of_getElem? (i := 30) rfl)) (hw _ (List.mem_of_getElem? (i := 31) rfl)) (hw _ (List.mem_of_getElem? (i := 32) rfl)) rfl (g := (mkF m 189 #[.val (.long p0), .second, .val (.long p1), .second, .val (.long p2), .second, .val (.long p3), .second, .val (.int p4), .val (.int p5), .val (.int v32), .val (.long v36), .second, .val (.long ((((p4 >>> ((2 : Int32) &&& 31)) &&& (3 : Int32)) - (1 : Int32)).toInt64)), .second, .val (.long v41), .second, .val (.int ((p5 &&& (255 : Int32)).toUInt32.toUInt16.toUInt32.toInt32)), .val (.int (((p5 >>> ((8 : Int32) &&& 31)) &&& (255 : Int32)).toUInt32.toUInt16.toUInt32.toInt32)), .val (.int (((p5 >>> ((16 : Int32) &&& 31)) &&& (255 : Int32)).toUInt32.toUInt16.toUInt32.toInt32)), .val (.int (((p5 >>> ((24 : Int32) &&& 31)) &&& (255 : Int32)).toUInt32.toUInt16.toUInt32.toInt32)), .val (.ref b44), .val (.ref b77), .val (.ref b123), .unset, .unset] [])) rfl (own_hb hby at_189) (by decide) (by decide)
    obtain ⟨b145, g145⟩ : ∃ z, z = T137.heap.size := ⟨_, rfl⟩
    rw [← g145] at A145 D145 st145
    have gx145 : n0 ≤ b145 := Nat.le_trans z144 (Nat.le_of_eq g145.symm)
    have ne146 : b44 ≠ b145 := Nat.ne_of_lt (Nat.lt_of_lt_of_le f139.lt (Nat.le_of_eq g145.symm))
    have ne147 : b49 ≠ b145 := Nat.ne_of_lt (Nat.lt_of_lt_of_le f140.lt (Nat.le_of_eq g145.symm))
    have ne148 : b77 ≠ b145 := Nat.ne_of_lt (Nat.lt_of_lt_of_le f141.lt (Nat.le_of_eq g145.symm))
    have ne149 : b86 ≠ b145 := Nat.ne_of_lt (Nat.lt_of_lt_of_le f142.lt (Nat.le_of_eq g145.symm))
    have ne150 : b123 ≠ b145 := Nat.ne_of_lt (Nat.lt_of_lt_of_le p137_0.lt (Nat.le_of_eq g145.symm))
    refine own_Go.of (S' := (T145.setTop (mkF m 192 #[.val (.long p0), .second, .val (.long p1), .second, .val (.long p2), .second, .val (.long p3), .second, .val (.int p4), .val (.int p5), .val (.int v32), .val (.long v36), .second, .val (.long ((((p4 >>> ((2 : Int32) &&& 31)) &&& (3 : Int32)) - (1 : Int32)).toInt64)), .second, .val (.long v41), .second, .val (.int ((p5 &&& (255 : Int32)).toUInt32.toUInt16.toUInt32.toInt32)), .val (.int (((p5 >>> ((8 : Int32) &&& 31)) &&& (255 : Int32)).toUInt32.toUInt16.toUInt32.toInt32)), .val (.int (((p5 >>> ((16 : Int32) &&& 31)) &&& (255 : Int32)).toUInt32.toUInt16.toUInt32.toInt32)), .val (.int (((p5 >>> ((24 : Int32) &&& 31)) &&& (255 : Int32)).toUInt32.toUInt16.toUInt32.toInt32)), .val (.ref b44), .val (.ref b77), .val (.ref b123), .unset, .unset] [(.ref b145)]))) st145 ?_
    have f151 : Old Z n0 h145 := f138.ext E145
    have f152 : Exa Z h145 b44 "java/lang/String" := f139.ext E145
    have f153 : own_Ar Z h145 b49 .char 2 (own_I (own_set (own_set (fun _ => (0 : Int32)) 0 (nar .char ((p5 &&& (255 : Int32)).toUInt32.toUInt16.toUInt32.toInt32))) 1 (nar .char (((p5 >>> ((8 : Int32) &&& 31)) &&& (255 : Int32)).toUInt32.toUInt16.toUInt32.toInt32)))) := f140.ext E145
    have f154 : Exa Z h145 b77 "java/lang/String" := f141.ext E145
    have f155 : own_Ar Z h145 b86 .char 2 (own_I (own_set (own_set (fun _ => (0 : Int32)) 0 (nar .char (((p5 >>> ((16 : Int32) &&& 31)) &&& (255 : Int32)).toUInt32.toUInt16.toUInt32.toInt32))) 1 (nar .char (((p5 >>> ((24 : Int32) &&& 31)) &&& (255 : Int32)).toUInt32.toUInt16.toUInt32.toInt32)))) := f142.ext E145
    have f156 : Exa Z h145 b123 "com/example/hearsay/hearsay/community/Stamp" := p137_0.ext E145
    have f157 : Fld Z h145 b123 "com/example/hearsay/hearsay/community/Stamp" "identity" "J" (.long p0) := p137_1.ext E145
    have f158 : Fld Z h145 b123 "com/example/hearsay/hearsay/community/Stamp" "version" "J" (.long p2) := p137_2.ext E145
    have z159 : n0 ≤ h145.size := Nat.le_trans z144 E145.1
    have f160 : Fld Z h145 b145 "com/example/hearsay/hearsay/community/Stamp" "name" "Ljava/lang/String;" .null := D145 (Or.inr (hw _ (List.mem_of_getElem? (i := 43) rfl))) (ty := (.object "java/lang/String")) (by decide)
    have f161 : Fld Z h145 b145 "com/example/hearsay/hearsay/community/Stamp" "identity" "J" (.long (0 : Int64)) := D145 (Or.inr (hw _ (List.mem_of_getElem? (i := 45) rfl))) (ty := .long) (by decide)
    have f162 : Fld Z h145 b145 "com/example/hearsay/hearsay/community/Stamp" "version" "J" (.long (0 : Int64)) := D145 (Or.inr (hw _ (List.mem_of_getElem? (i := 47) rfl))) (ty := .long) (by decide)
    refine own_Go.of (S' := (T145.setTop (mkF m 199 #[.val (.long p0), .second, .val (.long p1), .second, .val (.long p2), .second, .val (.long p3), .second, .val (.int p4), .val (.int p5), .val (.int v32), .val (.long v36), .second, .val (.long ((((p4 >>> ((2 : Int32) &&& 31)) &&& (3 : Int32)) - (1 : Int32)).toInt64)), .second, .val (.long v41), .second, .val (.int ((p5 &&& (255 : Int32)).toUInt32.toUInt16.toUInt32.toInt32)), .val (.int (((p5 >>> ((8 : Int32) &&& 31)) &&& (255 : Int32)).toUInt32.toUInt16.toUInt32.toInt32)), .val (.int (((p5 >>> ((16 : Int32) &&& 31)) &&& (255 : Int32)).toUInt32.toUInt16.toUInt32.toInt32)), .val (.int (((p5 >>> ((24 : Int32) &&& 31)) &&& (255 : Int32)).toUInt32.toUInt16.toUInt32.toInt32)), .val (.ref b44), .val (.ref b77), .val (.ref b123), .unset, .unset] [(.long v41), (.long v36), (.ref b77), (.ref b145), (.ref b145)]))) (fun t kt => ?_) ?_
    · show Steps p.tables e below (T145.setTop (mkF m 192 #[.val (.long p0), .second, .val (.long p1), .second, .val (.long p2), .second, .val (.long p3), .second, .val (.int p4), .val (.int p5), .val (.int v32), .val (.long v36), .second, .val (.long ((((p4 >>> ((2 : Int32) &&& 31)) &&& (3 : Int32)) - (1 : Int32)).toInt64)), .second, .val (.long v41), .second, .val (.int ((p5 &&& (255 : Int32)).toUInt32.toUInt16.toUInt32.toInt32)), .val (.int (((p5 >>> ((8 : Int32) &&& 31)) &&& (255 : Int32)).toUInt32.toUInt16.toUInt32.toInt32)), .val (.int (((p5 >>> ((16 : Int32) &&& 31)) &&& (255 : Int32)).toUInt32.toUInt16.toUInt32.toInt32)), .val (.int (((p5 >>> ((24 : Int32) &&& 31)) &&& (255 : Int32)).toUInt32.toUInt16.toUInt32.toInt32)), .val (.ref b44), .val (.ref b77), .val (.ref b123), .unset, .unset] [(.ref b145)])) _
      refine XS.dup X145.here hx rfl (own_hb hby at_192) rfl rfl ?_
      show Steps p.tables e below (T145.setTop (mkF m 193 #[.val (.long p0), .second, .val (.long p1), .second, .val (.long p2), .second, .val (.long p3), .second, .val (.int p4), .val (.int p5), .val (.int v32), .val (.long v36), .second, .val (.long ((((p4 >>> ((2 : Int32) &&& 31)) &&& (3 : Int32)) - (1 : Int32)).toInt64)), .second, .val (.long v41), .second, .val (.int ((p5 &&& (255 : Int32)).toUInt32.toUInt16.toUInt32.toInt32)), .val (.int (((p5 >>> ((8 : Int32) &&& 31)) &&& (255 : Int32)).toUInt32.toUInt16.toUInt32.toInt32)), .val (.int (((p5 >>> ((16 : Int32) &&& 31)) &&& (255 : Int32)).toUInt32.toUInt16.toUInt32.toInt32)), .val (.int (((p5 >>> ((24 : Int32) &&& 31)) &&& (255 : Int32)).toUInt32.toUInt16.toUInt32.toInt32)), .val (.ref b44), .val (.ref b77), .val (.ref b123), .unset, .unset] [(.ref b145), (.ref b145)])) _
      refine XS.aload X145.here hx rfl (own_hb hby at_193) rfl rfl ?_
      show Steps p.tables e below (T145.setTop (mkF m 195 #[.val (.long p0), .second, .val (.long p1), .second, .val (.long p2), .second, .val (.long p3), .second, .val (.int p4), .val (.int p5), .val (.int v32), .val (.long v36), .second, .val (.long ((((p4 >>> ((2 : Int32) &&& 31)) &&& (3 : Int32)) - (1 : Int32)).toInt64)), .second, .val (.long v41), .second, .val (.int ((p5 &&& (255 : Int32)).toUInt32.toUInt16.toUInt32.toInt32)), .val (.int (((p5 >>> ((8 : Int32) &&& 31)) &&& (255 : Int32)).toUInt32.toUInt16.toUInt32.toInt32)), .val (.int (((p5 >>> ((16 : Int32) &&& 31)) &&& (255 : Int32)).toUInt32.toUInt16.toUInt32.toInt32)), .val (.int (((p5 >>> ((24 : Int32) &&& 31)) &&& (255 : Int32)).toUInt32.toUInt16.toUInt32.toInt32)), .val (.ref b44), .val (.ref b77), .val (.ref b123), .unset, .unset] [(.ref b77), (.ref b145), (.ref b145)])) _
      refine XS.lload X145.here hx rfl (own_hb hby at_195) rfl ?_
      show Steps p.tables e below (T145.setTop (mkF m 197 #[.val (.long p0), .second, .val (.long p1), .second, .val (.long p2), .second, .val (.long p3), .second, .val (.int p4), .val (.int p5), .val (.int v32), .val (.long v36), .second, .val (.long ((((p4 >>> ((2 : Int32) &&& 31)) &&& (3 : Int32)) - (1 : Int32)).toInt64)), .second, .val (.long v41), .second, .val (.int ((p5 &&& (255 : Int32)).toUInt32.toUInt16.toUInt32.toInt32)), .val (.int (((p5 >>> ((8 : Int32) &&& 31)) &&& (255 : Int32)).toUInt32.toUInt16.toUInt32.toInt32)), .val (.int (((p5 >>> ((16 : Int32) &&& 31)) &&& (255 : Int32)).toUInt32.toUInt16.toUInt32.toInt32)), .val (.int (((p5 >>> ((24 : Int32) &&& 31)) &&& (255 : Int32)).toUInt32.toUInt16.toUInt32.toInt32)), .val (.ref b44), .val (.ref b77), .val (.ref b123), .unset, .unset] [(.long v36), (.ref b77), (.ref b145), (.ref b145)])) _
      refine XS.lload X145.here hx rfl (own_hb hby at_197) rfl ?_
      exact kt
    obtain ⟨_, _, ⟨T163, L163, k163, n163⟩, -, X163, ⟨Lc163, hQ163, l163, y163, z163⟩, st163⟩ := X145.specialBack hx (y := (⟨"com/example/hearsay/hearsay/community/Stamp", "<init>", "(Ljava/lang/String;JJ)V"⟩ : MethodName)) rfl hown (mvT hZ (hw _ (List.mem_of_getElem? (i := 33) rfl))) (mvT hZ (hw _ (List.mem_of_getElem? (i := 34) rfl))) (mvT hZ (hw _ (List.mem_of_getElem? (i := 35) rfl))) (by decide) (backOf (W := 1) (rm7 l Z a0 hw [] b145 b77 v36 v41 .null (.long (0 : Int64)) (.long (0 : Int64)) h145 n0 z159 A145 f160 f161 f162 gx145) hZ (hw _ (List.mem_of_getElem? (i := 35) rfl)) (hw _ (List.mem_of_getElem? (i := 32) rfl)) (by decide) (by decide)) (g := (mkF m 199 #[.val (.long p0), .second, .val (.long p1), .second, .val (.long p2), .second, .val (.long p3), .second, .val (.int p4), .val (.int p5), .val (.int v32), .val (.long v36), .second, .val (.long ((((p4 >>> ((2 : Int32) &&& 31)) &&& (3 : Int32)) - (1 : Int32)).toInt64)), .second, .val (.long v41), .second, .val (.int ((p5 &&& (255 : Int32)).toUInt32.toUInt16.toUInt32.toInt32)), .val (.int (((p5 >>> ((8 : Int32) &&& 31)) &&& (255 : Int32)).toUInt32.toUInt16.toUInt32.toInt32)), .val (.int (((p5 >>> ((16 : Int32) &&& 31)) &&& (255 : Int32)).toUInt32.toUInt16.toUInt32.toInt32)), .val (.int (((p5 >>> ((24 : Int32) &&& 31)) &&& (255 : Int32)).toUInt32.toUInt16.toUInt32.toInt32)), .val (.ref b44), .val (.ref b77), .val (.ref b123), .unset, .unset] [(.long v41), (.long v36), (.ref b77), (.ref b145), (.ref b145)])) rfl (by rw [hml]; rfl) (Steps.refl _) (a := b145) (argsL := [(.ref b77), (.long v36), (.long v41)]) (rest := [(.ref b145)]) (lenOf pd_2 rfl) rfl (by show 2 * 0 + _ ≤ _; exact Nat.le_of_eq rfl) (own_hb hby at_199) (fun _ _ => ⟨rfl, e145, (by decide : 8 + 0 ≤ _), (by decide : 22 + 0 ≤ _)⟩)
    dsimp only [Pt.U, Pt.locs, Pt.cells, Pt.slots] at X163 l163 y163 z163 st163 hQ163
    subst l163 y163 z163
    obtain ⟨rfl, N163q, K163, p163_0, p163_1, p163_2⟩ := hQ163
    have N163 := Fr.app N137 N163q
    refine own_Go.of (S' := (T163.setTop (mkF m 202 #[.val (.long p0), .second, .val (.long p1), .second, .val (.long p2), .second, .val (.long p3), .second, .val (.int p4), .val (.int p5), .val (.int v32), .val (.long v36), .second, .val (.long ((((p4 >>> ((2 : Int32) &&& 31)) &&& (3 : Int32)) - (1 : Int32)).toInt64)), .second, .val (.long v41), .second, .val (.int ((p5 &&& (255 : Int32)).toUInt32.toUInt16.toUInt32.toInt32)), .val (.int (((p5 >>> ((8 : Int32) &&& 31)) &&& (255 : Int32)).toUInt32.toUInt16.toUInt32.toInt32)), .val (.int (((p5 >>> ((16 : Int32) &&& 31)) &&& (255 : Int32)).toUInt32.toUInt16.toUInt32.toInt32)), .val (.int (((p5 >>> ((24 : Int32) &&& 31)) &&& (255 : Int32)).toUInt32.toUInt16.toUInt32.toInt32)), .val (.ref b44), .val (.ref b77), .val (.ref b123), .unset, .unset] [(.ref b145)]))) (fun t kt => st163.trans kt) ?_
    have f164 : Old Z n0 T163.heap := f151.keep K163 (allS gx145 all0)
    have f165 : Exa Z T163.heap b44 "java/lang/String" := f152.keep K163
    have f166 : own_Ar Z T163.heap b49 .char 2 (own_I (own_set (own_set (fun _ => (0 : Int32)) 0 (nar .char ((p5 &&& (255 : Int32)).toUInt32.toUInt16.toUInt32.toInt32))) 1 (nar .char (((p5 >>> ((8 : Int32) &&& 31)) &&& (255 : Int32)).toUInt32.toUInt16.toUInt32.toInt32)))) := f153.keep K163 (ninS ne147 nin0)
    have f167 : Exa Z T163.heap b77 "java/lang/String" := f154.keep K163
    have f168 : own_Ar Z T163.heap b86 .char 2 (own_I (own_set (own_set (fun _ => (0 : Int32)) 0 (nar .char (((p5 >>> ((16 : Int32) &&& 31)) &&& (255 : Int32)).toUInt32.toUInt16.toUInt32.toInt32))) 1 (nar .char (((p5 >>> ((24 : Int32) &&& 31)) &&& (255 : Int32)).toUInt32.toUInt16.toUInt32.toInt32)))) := f155.keep K163 (ninS ne149 nin0)
    have f169 : Exa Z T163.heap b123 "com/example/hearsay/hearsay/community/Stamp" := f156.keep K163
    have f170 : Fld Z T163.heap b123 "com/example/hearsay/hearsay/community/Stamp" "identity" "J" (.long p0) := f157.keep K163 (ninS ne150 nin0)
    have f171 : Fld Z T163.heap b123 "com/example/hearsay/hearsay/community/Stamp" "version" "J" (.long p2) := f158.keep K163 (ninS ne150 nin0)
    have f172 : Exa Z T163.heap b145 "com/example/hearsay/hearsay/community/Stamp" := A145.keep K163
    have z173 : n0 ≤ T163.heap.size := Nat.le_trans z159 K163.1
    refine own_Go.of (S' := (T163.setTop (mkF m 208 #[.val (.long p0), .second, .val (.long p1), .second, .val (.long p2), .second, .val (.long p3), .second, .val (.int p4), .val (.int p5), .val (.int v32), .val (.long v36), .second, .val (.long ((((p4 >>> ((2 : Int32) &&& 31)) &&& (3 : Int32)) - (1 : Int32)).toInt64)), .second, .val (.long v41), .second, .val (.int ((p5 &&& (255 : Int32)).toUInt32.toUInt16.toUInt32.toInt32)), .val (.int (((p5 >>> ((8 : Int32) &&& 31)) &&& (255 : Int32)).toUInt32.toUInt16.toUInt32.toInt32)), .val (.int (((p5 >>> ((16 : Int32) &&& 31)) &&& (255 : Int32)).toUInt32.toUInt16.toUInt32.toInt32)), .val (.int (((p5 >>> ((24 : Int32) &&& 31)) &&& (255 : Int32)).toUInt32.toUInt16.toUInt32.toInt32)), .val (.ref b44), .val (.ref b77), .val (.ref b123), .val (.ref b145), .unset] [(.int (lcmpW v36 p0))]))) (fun t kt => ?_) ?_
    · show Steps p.tables e below (T163.setTop (mkF m 202 #[.val (.long p0), .second, .val (.long p1), .second, .val (.long p2), .second, .val (.long p3), .second, .val (.int p4), .val (.int p5), .val (.int v32), .val (.long v36), .second, .val (.long ((((p4 >>> ((2 : Int32) &&& 31)) &&& (3 : Int32)) - (1 : Int32)).toInt64)), .second, .val (.long v41), .second, .val (.int ((p5 &&& (255 : Int32)).toUInt32.toUInt16.toUInt32.toInt32)), .val (.int (((p5 >>> ((8 : Int32) &&& 31)) &&& (255 : Int32)).toUInt32.toUInt16.toUInt32.toInt32)), .val (.int (((p5 >>> ((16 : Int32) &&& 31)) &&& (255 : Int32)).toUInt32.toUInt16.toUInt32.toInt32)), .val (.int (((p5 >>> ((24 : Int32) &&& 31)) &&& (255 : Int32)).toUInt32.toUInt16.toUInt32.toInt32)), .val (.ref b44), .val (.ref b77), .val (.ref b123), .unset, .unset] [(.ref b145)])) _
      refine XS.astore X163.here hx rfl (own_hb hby at_202) rfl rfl (l' := #[.val (.long p0), .second, .val (.long p1), .second, .val (.long p2), .second, .val (.long p3), .second, .val (.int p4), .val (.int p5), .val (.int v32), .val (.long v36), .second, .val (.long ((((p4 >>> ((2 : Int32) &&& 31)) &&& (3 : Int32)) - (1 : Int32)).toInt64)), .second, .val (.long v41), .second, .val (.int ((p5 &&& (255 : Int32)).toUInt32.toUInt16.toUInt32.toInt32)), .val (.int (((p5 >>> ((8 : Int32) &&& 31)) &&& (255 : Int32)).toUInt32.toUInt16.toUInt32.toInt32)), .val (.int (((p5 >>> ((16 : Int32) &&& 31)) &&& (255 : Int32)).toUInt32.toUInt16.toUInt32.toInt32)), .val (.int (((p5 >>> ((24 : Int32) &&& 31)) &&& (255 : Int32)).toUInt32.toUInt16.toUInt32.toInt32)), .val (.ref b44), .val (.ref b77), .val (.ref b123), .val (.ref b145), .unset]) rfl ?_
      show Steps p.tables e below (T163.setTop (mkF m 204 #[.val (.long p0), .second, .val (.long p1), .second, .val (.long p2), .second, .val (.long p3), .second, .val (.int p4), .val (.int p5), .val (.int v32), .val (.long v36), .second, .val (.long ((((p4 >>> ((2 : Int32) &&& 31)) &&& (3 : Int32)) - (1 : Int32)).toInt64)), .second, .val (.long v41), .second, .val (.int ((p5 &&& (255 : Int32)).toUInt32.toUInt16.toUInt32.toInt32)), .val (.int (((p5 >>> ((8 : Int32) &&& 31)) &&& (255 : Int32)).toUInt32.toUInt16.toUInt32.toInt32)), .val (.int (((p5 >>> ((16 : Int32) &&& 31)) &&& (255 : Int32)).toUInt32.toUInt16.toUInt32.toInt32)), .val (.int (((p5 >>> ((24 : Int32) &&& 31)) &&& (255 : Int32)).toUInt32.toUInt16.toUInt32.toInt32)), .val (.ref b44), .val (.ref b77), .val (.ref b123), .val (.ref b145), .unset] [])) _
      refine XS.lload X163.here hx rfl (own_hb hby at_204) rfl ?_
      show Steps p.tables e below (T163.setTop (mkF m 206 #[.val (.long p0), .second, .val (.long p1), .second, .val (.long p2), .second, .val (.long p3), .second, .val (.int p4), .val (.int p5), .val (.int v32), .val (.long v36), .second, .val (.long ((((p4 >>> ((2 : Int32) &&& 31)) &&& (3 : Int32)) - (1 : Int32)).toInt64)), .second, .val (.long v41), .second, .val (.int ((p5 &&& (255 : Int32)).toUInt32.toUInt16.toUInt32.toInt32)), .val (.int (((p5 >>> ((8 : Int32) &&& 31)) &&& (255 : Int32)).toUInt32.toUInt16.toUInt32.toInt32)), .val (.int (((p5 >>> ((16 : Int32) &&& 31)) &&& (255 : Int32)).toUInt32.toUInt16.toUInt32.toInt32)), .val (.int (((p5 >>> ((24 : Int32) &&& 31)) &&& (255 : Int32)).toUInt32.toUInt16.toUInt32.toInt32)), .val (.ref b44), .val (.ref b77), .val (.ref b123), .val (.ref b145), .unset] [(.long v36)])) _
      refine XS.lloadN X163.here hx rfl (own_hb hby at_206) rfl ?_
      show Steps p.tables e below (T163.setTop (mkF m 207 #[.val (.long p0), .second, .val (.long p1), .second, .val (.long p2), .second, .val (.long p3), .second, .val (.int p4), .val (.int p5), .val (.int v32), .val (.long v36), .second, .val (.long ((((p4 >>> ((2 : Int32) &&& 31)) &&& (3 : Int32)) - (1 : Int32)).toInt64)), .second, .val (.long v41), .second, .val (.int ((p5 &&& (255 : Int32)).toUInt32.toUInt16.toUInt32.toInt32)), .val (.int (((p5 >>> ((8 : Int32) &&& 31)) &&& (255 : Int32)).toUInt32.toUInt16.toUInt32.toInt32)), .val (.int (((p5 >>> ((16 : Int32) &&& 31)) &&& (255 : Int32)).toUInt32.toUInt16.toUInt32.toInt32)), .val (.int (((p5 >>> ((24 : Int32) &&& 31)) &&& (255 : Int32)).toUInt32.toUInt16.toUInt32.toInt32)), .val (.ref b44), .val (.ref b77), .val (.ref b123), .val (.ref b145), .unset] [(.long p0), (.long v36)])) _
      refine XS.lcmp X163.here hx rfl (own_hb hby at_207) rfl ?_
      exact kt
    obtain ⟨v177, hd179, st178⟩ : ∃ v177 : Int32, ((v177 = (1 : Int32) ∧ v36 = p0 ∧ p2 < v41) ∨ (v177 = (0 : Int32) ∧ v36 = p0 ∧ ¬ (p2 < v41)) ∨ (v177 = (1 : Int32) ∧ ¬ (v36 = p0) ∧ (0 : Int64) < v41) ∨ (v177 = (0 : Int32) ∧ ¬ (v36 = p0) ∧ ¬ ((0 : Int64) < v41))) ∧ ∀ t, Steps p.tables e below (T163.setTop (mkF m 243 #[.val (.long p0), .second, .val (.long p1), .second, .val (.long p2), .second, .val (.long p3), .second, .val (.int p4), .val (.int p5), .val (.int v32), .val (.long v36), .second, .val (.long ((((p4 >>> ((2 : Int32) &&& 31)) &&& (3 : Int32)) - (1 : Int32)).toInt64)), .second, .val (.long v41), .second, .val (.int ((p5 &&& (255 : Int32)).toUInt32.toUInt16.toUInt32.toInt32)), .val (.int (((p5 >>> ((8 : Int32) &&& 31)) &&& (255 : Int32)).toUInt32.toUInt16.toUInt32.toInt32)), .val (.int (((p5 >>> ((16 : Int32) &&& 31)) &&& (255 : Int32)).toUInt32.toUInt16.toUInt32.toInt32)), .val (.int (((p5 >>> ((24 : Int32) &&& 31)) &&& (255 : Int32)).toUInt32.toUInt16.toUInt32.toInt32)), .val (.ref b44), .val (.ref b77), .val (.ref b123), .val (.ref b145), .val (.int v177)] [])) t → Steps p.tables e below (T163.setTop (mkF m 208 #[.val (.long p0), .second, .val (.long p1), .second, .val (.long p2), .second, .val (.long p3), .second, .val (.int p4), .val (.int p5), .val (.int v32), .val (.long v36), .second, .val (.long ((((p4 >>> ((2 : Int32) &&& 31)) &&& (3 : Int32)) - (1 : Int32)).toInt64)), .second, .val (.long v41), .second, .val (.int ((p5 &&& (255 : Int32)).toUInt32.toUInt16.toUInt32.toInt32)), .val (.int (((p5 >>> ((8 : Int32) &&& 31)) &&& (255 : Int32)).toUInt32.toUInt16.toUInt32.toInt32)), .val (.int (((p5 >>> ((16 : Int32) &&& 31)) &&& (255 : Int32)).toUInt32.toUInt16.toUInt32.toInt32)), .val (.int (((p5 >>> ((24 : Int32) &&& 31)) &&& (255 : Int32)).toUInt32.toUInt16.toUInt32.toInt32)), .val (.ref b44), .val (.ref b77), .val (.ref b123), .val (.ref b145), .unset] [(.int (lcmpW v36 p0))])) t := by
      by_cases hc208_174 : v36 = p0
      · skip
        by_cases hc216_175 : p2 < v41
        · skip
          refine ⟨(1 : Int32), (Or.inl (⟨rfl, hc208_174, hc216_175⟩)), fun t kt => ?_⟩
          show Steps p.tables e below (T163.setTop (mkF m 208 #[.val (.long p0), .second, .val (.long p1), .second, .val (.long p2), .second, .val (.long p3), .second, .val (.int p4), .val (.int p5), .val (.int v32), .val (.long v36), .second, .val (.long ((((p4 >>> ((2 : Int32) &&& 31)) &&& (3 : Int32)) - (1 : Int32)).toInt64)), .second, .val (.long v41), .second, .val (.int ((p5 &&& (255 : Int32)).toUInt32.toUInt16.toUInt32.toInt32)), .val (.int (((p5 >>> ((8 : Int32) &&& 31)) &&& (255 : Int32)).toUInt32.toUInt16.toUInt32.toInt32)), .val (.int (((p5 >>> ((16 : Int32) &&& 31)) &&& (255 : Int32)).toUInt32.toUInt16.toUInt32.toInt32)), .val (.int (((p5 >>> ((24 : Int32) &&& 31)) &&& (255 : Int32)).toUInt32.toUInt16.toUInt32.toInt32)), .val (.ref b44), .val (.ref b77), .val (.ref b123), .val (.ref b145), .unset] [(.int (lcmpW v36 p0))])) _
          refine XS.ifNo X163.here hx rfl (own_hb hby at_208) rfl ((if0 _ _).trans (teq ((lw_eq _ _).mpr hc208_174)).2) ?_
          show Steps p.tables e below (T163.setTop (mkF m 211 #[.val (.long p0), .second, .val (.long p1), .second, .val (.long p2), .second, .val (.long p3), .second, .val (.int p4), .val (.int p5), .val (.int v32), .val (.long v36), .second, .val (.long ((((p4 >>> ((2 : Int32) &&& 31)) &&& (3 : Int32)) - (1 : Int32)).toInt64)), .second, .val (.long v41), .second, .val (.int ((p5 &&& (255 : Int32)).toUInt32.toUInt16.toUInt32.toInt32)), .val (.int (((p5 >>> ((8 : Int32) &&& 31)) &&& (255 : Int32)).toUInt32.toUInt16.toUInt32.toInt32)), .val (.int (((p5 >>> ((16 : Int32) &&& 31)) &&& (255 : Int32)).toUInt32.toUInt16.toUInt32.toInt32)), .val (.int (((p5 >>> ((24 : Int32) &&& 31)) &&& (255 : Int32)).toUInt32.toUInt16.toUInt32.toInt32)), .val (.ref b44), .val (.ref b77), .val (.ref b123), .val (.ref b145), .unset] [])) _
          refine XS.lload X163.here hx rfl (own_hb hby at_211) rfl ?_
          show Steps p.tables e below (T163.setTop (mkF m 213 #[.val (.long p0), .second, .val (.long p1), .second, .val (.long p2), .second, .val (.long p3), .second, .val (.int p4), .val (.int p5), .val (.int v32), .val (.long v36), .second, .val (.long ((((p4 >>> ((2 : Int32) &&& 31)) &&& (3 : Int32)) - (1 : Int32)).toInt64)), .second, .val (.long v41), .second, .val (.int ((p5 &&& (255 : Int32)).toUInt32.toUInt16.toUInt32.toInt32)), .val (.int (((p5 >>> ((8 : Int32) &&& 31)) &&& (255 : Int32)).toUInt32.toUInt16.toUInt32.toInt32)), .val (.int (((p5 >>> ((16 : Int32) &&& 31)) &&& (255 : Int32)).toUInt32.toUInt16.toUInt32.toInt32)), .val (.int (((p5 >>> ((24 : Int32) &&& 31)) &&& (255 : Int32)).toUInt32.toUInt16.toUInt32.toInt32)), .val (.ref b44), .val (.ref b77), .val (.ref b123), .val (.ref b145), .unset] [(.long v41)])) _
          refine XS.lload X163.here hx rfl (own_hb hby at_213) rfl ?_
          show Steps p.tables e below (T163.setTop (mkF m 215 #[.val (.long p0), .second, .val (.long p1), .second, .val (.long p2), .second, .val (.long p3), .second, .val (.int p4), .val (.int p5), .val (.int v32), .val (.long v36), .second, .val (.long ((((p4 >>> ((2 : Int32) &&& 31)) &&& (3 : Int32)) - (1 : Int32)).toInt64)), .second, .val (.long v41), .second, .val (.int ((p5 &&& (255 : Int32)).toUInt32.toUInt16.toUInt32.toInt32)), .val (.int (((p5 >>> ((8 : Int32) &&& 31)) &&& (255 : Int32)).toUInt32.toUInt16.toUInt32.toInt32)), .val (.int (((p5 >>> ((16 : Int32) &&& 31)) &&& (255 : Int32)).toUInt32.toUInt16.toUInt32.toInt32)), .val (.int (((p5 >>> ((24 : Int32) &&& 31)) &&& (255 : Int32)).toUInt32.toUInt16.toUInt32.toInt32)), .val (.ref b44), .val (.ref b77), .val (.ref b123), .val (.ref b145), .unset] [(.long p2), (.long v41)])) _
          refine XS.lcmp X163.here hx rfl (own_hb hby at_215) rfl ?_
          show Steps p.tables e below (T163.setTop (mkF m 216 #[.val (.long p0), .second, .val (.long p1), .second, .val (.long p2), .second, .val (.long p3), .second, .val (.int p4), .val (.int p5), .val (.int v32), .val (.long v36), .second, .val (.long ((((p4 >>> ((2 : Int32) &&& 31)) &&& (3 : Int32)) - (1 : Int32)).toInt64)), .second, .val (.long v41), .second, .val (.int ((p5 &&& (255 : Int32)).toUInt32.toUInt16.toUInt32.toInt32)), .val (.int (((p5 >>> ((8 : Int32) &&& 31)) &&& (255 : Int32)).toUInt32.toUInt16.toUInt32.toInt32)), .val (.int (((p5 >>> ((16 : Int32) &&& 31)) &&& (255 : Int32)).toUInt32.toUInt16.toUInt32.toInt32)), .val (.int (((p5 >>> ((24 : Int32) &&& 31)) &&& (255 : Int32)).toUInt32.toUInt16.toUInt32.toInt32)), .val (.ref b44), .val (.ref b77), .val (.ref b123), .val (.ref b145), .unset] [(.int (lcmpW v41 p2))])) _
          refine XS.ifNo X163.here hx rfl (own_hb hby at_216) rfl ((if0 _ _).trans (tlt ((lw_gt _ _).mpr hc216_175)).2.2.2) ?_
          show Steps p.tables e below (T163.setTop (mkF m 219 #[.val (.long p0), .second, .val (.long p1), .second, .val (.long p2), .second, .val (.long p3), .second, .val (.int p4), .val (.int p5), .val (.int v32), .val (.long v36), .second, .val (.long ((((p4 >>> ((2 : Int32) &&& 31)) &&& (3 : Int32)) - (1 : Int32)).toInt64)), .second, .val (.long v41), .second, .val (.int ((p5 &&& (255 : Int32)).toUInt32.toUInt16.toUInt32.toInt32)), .val (.int (((p5 >>> ((8 : Int32) &&& 31)) &&& (255 : Int32)).toUInt32.toUInt16.toUInt32.toInt32)), .val (.int (((p5 >>> ((16 : Int32) &&& 31)) &&& (255 : Int32)).toUInt32.toUInt16.toUInt32.toInt32)), .val (.int (((p5 >>> ((24 : Int32) &&& 31)) &&& (255 : Int32)).toUInt32.toUInt16.toUInt32.toInt32)), .val (.ref b44), .val (.ref b77), .val (.ref b123), .val (.ref b145), .unset] [])) _
          refine XS.iconst X163.here hx rfl (own_hb hby at_219) ?_
          show Steps p.tables e below (T163.setTop (mkF m 220 #[.val (.long p0), .second, .val (.long p1), .second, .val (.long p2), .second, .val (.long p3), .second, .val (.int p4), .val (.int p5), .val (.int v32), .val (.long v36), .second, .val (.long ((((p4 >>> ((2 : Int32) &&& 31)) &&& (3 : Int32)) - (1 : Int32)).toInt64)), .second, .val (.long v41), .second, .val (.int ((p5 &&& (255 : Int32)).toUInt32.toUInt16.toUInt32.toInt32)), .val (.int (((p5 >>> ((8 : Int32) &&& 31)) &&& (255 : Int32)).toUInt32.toUInt16.toUInt32.toInt32)), .val (.int (((p5 >>> ((16 : Int32) &&& 31)) &&& (255 : Int32)).toUInt32.toUInt16.toUInt32.toInt32)), .val (.int (((p5 >>> ((24 : Int32) &&& 31)) &&& (255 : Int32)).toUInt32.toUInt16.toUInt32.toInt32)), .val (.ref b44), .val (.ref b77), .val (.ref b123), .val (.ref b145), .unset] [(.int (1 : Int32))])) _
          refine XS.goto X163.here hx rfl (pc0 := 220) (pc' := 224) rfl (own_hb hby at_220) (by decide) (by decide) ?_
          show Steps p.tables e below (T163.setTop (mkF m 224 #[.val (.long p0), .second, .val (.long p1), .second, .val (.long p2), .second, .val (.long p3), .second, .val (.int p4), .val (.int p5), .val (.int v32), .val (.long v36), .second, .val (.long ((((p4 >>> ((2 : Int32) &&& 31)) &&& (3 : Int32)) - (1 : Int32)).toInt64)), .second, .val (.long v41), .second, .val (.int ((p5 &&& (255 : Int32)).toUInt32.toUInt16.toUInt32.toInt32)), .val (.int (((p5 >>> ((8 : Int32) &&& 31)) &&& (255 : Int32)).toUInt32.toUInt16.toUInt32.toInt32)), .val (.int (((p5 >>> ((16 : Int32) &&& 31)) &&& (255 : Int32)).toUInt32.toUInt16.toUInt32.toInt32)), .val (.int (((p5 >>> ((24 : Int32) &&& 31)) &&& (255 : Int32)).toUInt32.toUInt16.toUInt32.toInt32)), .val (.ref b44), .val (.ref b77), .val (.ref b123), .val (.ref b145), .unset] [(.int (1 : Int32))])) _
          refine XS.istore X163.here hx rfl (own_hb hby at_224) rfl (l' := #[.val (.long p0), .second, .val (.long p1), .second, .val (.long p2), .second, .val (.long p3), .second, .val (.int p4), .val (.int p5), .val (.int v32), .val (.long v36), .second, .val (.long ((((p4 >>> ((2 : Int32) &&& 31)) &&& (3 : Int32)) - (1 : Int32)).toInt64)), .second, .val (.long v41), .second, .val (.int ((p5 &&& (255 : Int32)).toUInt32.toUInt16.toUInt32.toInt32)), .val (.int (((p5 >>> ((8 : Int32) &&& 31)) &&& (255 : Int32)).toUInt32.toUInt16.toUInt32.toInt32)), .val (.int (((p5 >>> ((16 : Int32) &&& 31)) &&& (255 : Int32)).toUInt32.toUInt16.toUInt32.toInt32)), .val (.int (((p5 >>> ((24 : Int32) &&& 31)) &&& (255 : Int32)).toUInt32.toUInt16.toUInt32.toInt32)), .val (.ref b44), .val (.ref b77), .val (.ref b123), .val (.ref b145), .val (.int (1 : Int32))]) rfl ?_
          show Steps p.tables e below (T163.setTop (mkF m 226 #[.val (.long p0), .second, .val (.long p1), .second, .val (.long p2), .second, .val (.long p3), .second, .val (.int p4), .val (.int p5), .val (.int v32), .val (.long v36), .second, .val (.long ((((p4 >>> ((2 : Int32) &&& 31)) &&& (3 : Int32)) - (1 : Int32)).toInt64)), .second, .val (.long v41), .second, .val (.int ((p5 &&& (255 : Int32)).toUInt32.toUInt16.toUInt32.toInt32)), .val (.int (((p5 >>> ((8 : Int32) &&& 31)) &&& (255 : Int32)).toUInt32.toUInt16.toUInt32.toInt32)), .val (.int (((p5 >>> ((16 : Int32) &&& 31)) &&& (255 : Int32)).toUInt32.toUInt16.toUInt32.toInt32)), .val (.int (((p5 >>> ((24 : Int32) &&& 31)) &&& (255 : Int32)).toUInt32.toUInt16.toUInt32.toInt32)), .val (.ref b44), .val (.ref b77), .val (.ref b123), .val (.ref b145), .val (.int (1 : Int32))] [])) _
          refine XS.goto X163.here hx rfl (pc0 := 226) (pc' := 243) rfl (own_hb hby at_226) (by decide) (by decide) ?_
          exact kt
        · skip
          refine ⟨(0 : Int32), (Or.inr (Or.inl (⟨rfl, hc208_174, hc216_175⟩))), fun t kt => ?_⟩
          show Steps p.tables e below (T163.setTop (mkF m 208 #[.val (.long p0), .second, .val (.long p1), .second, .val (.long p2), .second, .val (.long p3), .second, .val (.int p4), .val (.int p5), .val (.int v32), .val (.long v36), .second, .val (.long ((((p4 >>> ((2 : Int32) &&& 31)) &&& (3 : Int32)) - (1 : Int32)).toInt64)), .second, .val (.long v41), .second, .val (.int ((p5 &&& (255 : Int32)).toUInt32.toUInt16.toUInt32.toInt32)), .val (.int (((p5 >>> ((8 : Int32) &&& 31)) &&& (255 : Int32)).toUInt32.toUInt16.toUInt32.toInt32)), .val (.int (((p5 >>> ((16 : Int32) &&& 31)) &&& (255 : Int32)).toUInt32.toUInt16.toUInt32.toInt32)), .val (.int (((p5 >>> ((24 : Int32) &&& 31)) &&& (255 : Int32)).toUInt32.toUInt16.toUInt32.toInt32)), .val (.ref b44), .val (.ref b77), .val (.ref b123), .val (.ref b145), .unset] [(.int (lcmpW v36 p0))])) _
          refine XS.ifNo X163.here hx rfl (own_hb hby at_208) rfl ((if0 _ _).trans (teq ((lw_eq _ _).mpr hc208_174)).2) ?_
          show Steps p.tables e below (T163.setTop (mkF m 211 #[.val (.long p0), .second, .val (.long p1), .second, .val (.long p2), .second, .val (.long p3), .second, .val (.int p4), .val (.int p5), .val (.int v32), .val (.long v36), .second, .val (.long ((((p4 >>> ((2 : Int32) &&& 31)) &&& (3 : Int32)) - (1 : Int32)).toInt64)), .second, .val (.long v41), .second, .val (.int ((p5 &&& (255 : Int32)).toUInt32.toUInt16.toUInt32.toInt32)), .val (.int (((p5 >>> ((8 : Int32) &&& 31)) &&& (255 : Int32)).toUInt32.toUInt16.toUInt32.toInt32)), .val (.int (((p5 >>> ((16 : Int32) &&& 31)) &&& (255 : Int32)).toUInt32.toUInt16.toUInt32.toInt32)), .val (.int (((p5 >>> ((24 : Int32) &&& 31)) &&& (255 : Int32)).toUInt32.toUInt16.toUInt32.toInt32)), .val (.ref b44), .val (.ref b77), .val (.ref b123), .val (.ref b145), .unset] [])) _
          refine XS.lload X163.here hx rfl (own_hb hby at_211) rfl ?_
          show Steps p.tables e below (T163.setTop (mkF m 213 #[.val (.long p0), .second, .val (.long p1), .second, .val (.long p2), .second, .val (.long p3), .second, .val (.int p4), .val (.int p5), .val (.int v32), .val (.long v36), .second, .val (.long ((((p4 >>> ((2 : Int32) &&& 31)) &&& (3 : Int32)) - (1 : Int32)).toInt64)), .second, .val (.long v41), .second, .val (.int ((p5 &&& (255 : Int32)).toUInt32.toUInt16.toUInt32.toInt32)), .val (.int (((p5 >>> ((8 : Int32) &&& 31)) &&& (255 : Int32)).toUInt32.toUInt16.toUInt32.toInt32)), .val (.int (((p5 >>> ((16 : Int32) &&& 31)) &&& (255 : Int32)).toUInt32.toUInt16.toUInt32.toInt32)), .val (.int (((p5 >>> ((24 : Int32) &&& 31)) &&& (255 : Int32)).toUInt32.toUInt16.toUInt32.toInt32)), .val (.ref b44), .val (.ref b77), .val (.ref b123), .val (.ref b145), .unset] [(.long v41)])) _
          refine XS.lload X163.here hx rfl (own_hb hby at_213) rfl ?_
          show Steps p.tables e below (T163.setTop (mkF m 215 #[.val (.long p0), .second, .val (.long p1), .second, .val (.long p2), .second, .val (.long p3), .second, .val (.int p4), .val (.int p5), .val (.int v32), .val (.long v36), .second, .val (.long ((((p4 >>> ((2 : Int32) &&& 31)) &&& (3 : Int32)) - (1 : Int32)).toInt64)), .second, .val (.long v41), .second, .val (.int ((p5 &&& (255 : Int32)).toUInt32.toUInt16.toUInt32.toInt32)), .val (.int (((p5 >>> ((8 : Int32) &&& 31)) &&& (255 : Int32)).toUInt32.toUInt16.toUInt32.toInt32)), .val (.int (((p5 >>> ((16 : Int32) &&& 31)) &&& (255 : Int32)).toUInt32.toUInt16.toUInt32.toInt32)), .val (.int (((p5 >>> ((24 : Int32) &&& 31)) &&& (255 : Int32)).toUInt32.toUInt16.toUInt32.toInt32)), .val (.ref b44), .val (.ref b77), .val (.ref b123), .val (.ref b145), .unset] [(.long p2), (.long v41)])) _
          refine XS.lcmp X163.here hx rfl (own_hb hby at_215) rfl ?_
          show Steps p.tables e below (T163.setTop (mkF m 216 #[.val (.long p0), .second, .val (.long p1), .second, .val (.long p2), .second, .val (.long p3), .second, .val (.int p4), .val (.int p5), .val (.int v32), .val (.long v36), .second, .val (.long ((((p4 >>> ((2 : Int32) &&& 31)) &&& (3 : Int32)) - (1 : Int32)).toInt64)), .second, .val (.long v41), .second, .val (.int ((p5 &&& (255 : Int32)).toUInt32.toUInt16.toUInt32.toInt32)), .val (.int (((p5 >>> ((8 : Int32) &&& 31)) &&& (255 : Int32)).toUInt32.toUInt16.toUInt32.toInt32)), .val (.int (((p5 >>> ((16 : Int32) &&& 31)) &&& (255 : Int32)).toUInt32.toUInt16.toUInt32.toInt32)), .val (.int (((p5 >>> ((24 : Int32) &&& 31)) &&& (255 : Int32)).toUInt32.toUInt16.toUInt32.toInt32)), .val (.ref b44), .val (.ref b77), .val (.ref b123), .val (.ref b145), .unset] [(.int (lcmpW v41 p2))])) _
          refine XS.ifYes X163.here hx rfl (pc0 := 216) (pc' := 223) rfl (own_hb hby at_216) rfl ((if0 _ _).trans (flt (fun q => hc216_175 ((lw_gt _ _).mp q))).2.2.2) (by decide) (by decide) ?_
          show Steps p.tables e below (T163.setTop (mkF m 223 #[.val (.long p0), .second, .val (.long p1), .second, .val (.long p2), .second, .val (.long p3), .second, .val (.int p4), .val (.int p5), .val (.int v32), .val (.long v36), .second, .val (.long ((((p4 >>> ((2 : Int32) &&& 31)) &&& (3 : Int32)) - (1 : Int32)).toInt64)), .second, .val (.long v41), .second, .val (.int ((p5 &&& (255 : Int32)).toUInt32.toUInt16.toUInt32.toInt32)), .val (.int (((p5 >>> ((8 : Int32) &&& 31)) &&& (255 : Int32)).toUInt32.toUInt16.toUInt32.toInt32)), .val (.int (((p5 >>> ((16 : Int32) &&& 31)) &&& (255 : Int32)).toUInt32.toUInt16.toUInt32.toInt32)), .val (.int (((p5 >>> ((24 : Int32) &&& 31)) &&& (255 : Int32)).toUInt32.toUInt16.toUInt32.toInt32)), .val (.ref b44), .val (.ref b77), .val (.ref b123), .val (.ref b145), .unset] [])) _
          refine XS.iconst X163.here hx rfl (own_hb hby at_223) ?_
          show Steps p.tables e below (T163.setTop (mkF m 224 #[.val (.long p0), .second, .val (.long p1), .second, .val (.long p2), .second, .val (.long p3), .second, .val (.int p4), .val (.int p5), .val (.int v32), .val (.long v36), .second, .val (.long ((((p4 >>> ((2 : Int32) &&& 31)) &&& (3 : Int32)) - (1 : Int32)).toInt64)), .second, .val (.long v41), .second, .val (.int ((p5 &&& (255 : Int32)).toUInt32.toUInt16.toUInt32.toInt32)), .val (.int (((p5 >>> ((8 : Int32) &&& 31)) &&& (255 : Int32)).toUInt32.toUInt16.toUInt32.toInt32)), .val (.int (((p5 >>> ((16 : Int32) &&& 31)) &&& (255 : Int32)).toUInt32.toUInt16.toUInt32.toInt32)), .val (.int (((p5 >>> ((24 : Int32) &&& 31)) &&& (255 : Int32)).toUInt32.toUInt16.toUInt32.toInt32)), .val (.ref b44), .val (.ref b77), .val (.ref b123), .val (.ref b145), .unset] [(.int (0 : Int32))])) _
          refine XS.istore X163.here hx rfl (own_hb hby at_224) rfl (l' := #[.val (.long p0), .second, .val (.long p1), .second, .val (.long p2), .second, .val (.long p3), .second, .val (.int p4), .val (.int p5), .val (.int v32), .val (.long v36), .second, .val (.long ((((p4 >>> ((2 : Int32) &&& 31)) &&& (3 : Int32)) - (1 : Int32)).toInt64)), .second, .val (.long v41), .second, .val (.int ((p5 &&& (255 : Int32)).toUInt32.toUInt16.toUInt32.toInt32)), .val (.int (((p5 >>> ((8 : Int32) &&& 31)) &&& (255 : Int32)).toUInt32.toUInt16.toUInt32.toInt32)), .val (.int (((p5 >>> ((16 : Int32) &&& 31)) &&& (255 : Int32)).toUInt32.toUInt16.toUInt32.toInt32)), .val (.int (((p5 >>> ((24 : Int32) &&& 31)) &&& (255 : Int32)).toUInt32.toUInt16.toUInt32.toInt32)), .val (.ref b44), .val (.ref b77), .val (.ref b123), .val (.ref b145), .val (.int (0 : Int32))]) rfl ?_
          show Steps p.tables e below (T163.setTop (mkF m 226 #[.val (.long p0), .second, .val (.long p1), .second, .val (.long p2), .second, .val (.long p3), .second, .val (.int p4), .val (.int p5), .val (.int v32), .val (.long v36), .second, .val (.long ((((p4 >>> ((2 : Int32) &&& 31)) &&& (3 : Int32)) - (1 : Int32)).toInt64)), .second, .val (.long v41), .second, .val (.int ((p5 &&& (255 : Int32)).toUInt32.toUInt16.toUInt32.toInt32)), .val (.int (((p5 >>> ((8 : Int32) &&& 31)) &&& (255 : Int32)).toUInt32.toUInt16.toUInt32.toInt32)), .val (.int (((p5 >>> ((16 : Int32) &&& 31)) &&& (255 : Int32)).toUInt32.toUInt16.toUInt32.toInt32)), .val (.int (((p5 >>> ((24 : Int32) &&& 31)) &&& (255 : Int32)).toUInt32.toUInt16.toUInt32.toInt32)), .val (.ref b44), .val (.ref b77), .val (.ref b123), .val (.ref b145), .val (.int (0 : Int32))] [])) _
          refine XS.goto X163.here hx rfl (pc0 := 226) (pc' := 243) rfl (own_hb hby at_226) (by decide) (by decide) ?_
          exact kt
      · skip
        by_cases hc233_176 : (0 : Int64) < v41
        · skip
          refine ⟨(1 : Int32), (Or.inr (Or.inr (Or.inl (⟨rfl, hc208_174, hc233_176⟩)))), fun t kt => ?_⟩
          show Steps p.tables e below (T163.setTop (mkF m 208 #[.val (.long p0), .second, .val (.long p1), .second, .val (.long p2), .second, .val (.long p3), .second, .val (.int p4), .val (.int p5), .val (.int v32), .val (.long v36), .second, .val (.long ((((p4 >>> ((2 : Int32) &&& 31)) &&& (3 : Int32)) - (1 : Int32)).toInt64)), .second, .val (.long v41), .second, .val (.int ((p5 &&& (255 : Int32)).toUInt32.toUInt16.toUInt32.toInt32)), .val (.int (((p5 >>> ((8 : Int32) &&& 31)) &&& (255 : Int32)).toUInt32.toUInt16.toUInt32.toInt32)), .val (.int (((p5 >>> ((16 : Int32) &&& 31)) &&& (255 : Int32)).toUInt32.toUInt16.toUInt32.toInt32)), .val (.int (((p5 >>> ((24 : Int32) &&& 31)) &&& (255 : Int32)).toUInt32.toUInt16.toUInt32.toInt32)), .val (.ref b44), .val (.ref b77), .val (.ref b123), .val (.ref b145), .unset] [(.int (lcmpW v36 p0))])) _
          refine XS.ifYes X163.here hx rfl (pc0 := 208) (pc' := 229) rfl (own_hb hby at_208) rfl ((if0 _ _).trans (feq (fun q => hc208_174 ((lw_eq _ _).mp q))).2) (by decide) (by decide) ?_
          show Steps p.tables e below (T163.setTop (mkF m 229 #[.val (.long p0), .second, .val (.long p1), .second, .val (.long p2), .second, .val (.long p3), .second, .val (.int p4), .val (.int p5), .val (.int v32), .val (.long v36), .second, .val (.long ((((p4 >>> ((2 : Int32) &&& 31)) &&& (3 : Int32)) - (1 : Int32)).toInt64)), .second, .val (.long v41), .second, .val (.int ((p5 &&& (255 : Int32)).toUInt32.toUInt16.toUInt32.toInt32)), .val (.int (((p5 >>> ((8 : Int32) &&& 31)) &&& (255 : Int32)).toUInt32.toUInt16.toUInt32.toInt32)), .val (.int (((p5 >>> ((16 : Int32) &&& 31)) &&& (255 : Int32)).toUInt32.toUInt16.toUInt32.toInt32)), .val (.int (((p5 >>> ((24 : Int32) &&& 31)) &&& (255 : Int32)).toUInt32.toUInt16.toUInt32.toInt32)), .val (.ref b44), .val (.ref b77), .val (.ref b123), .val (.ref b145), .unset] [])) _
          refine XS.lload X163.here hx rfl (own_hb hby at_229) rfl ?_
          show Steps p.tables e below (T163.setTop (mkF m 231 #[.val (.long p0), .second, .val (.long p1), .second, .val (.long p2), .second, .val (.long p3), .second, .val (.int p4), .val (.int p5), .val (.int v32), .val (.long v36), .second, .val (.long ((((p4 >>> ((2 : Int32) &&& 31)) &&& (3 : Int32)) - (1 : Int32)).toInt64)), .second, .val (.long v41), .second, .val (.int ((p5 &&& (255 : Int32)).toUInt32.toUInt16.toUInt32.toInt32)), .val (.int (((p5 >>> ((8 : Int32) &&& 31)) &&& (255 : Int32)).toUInt32.toUInt16.toUInt32.toInt32)), .val (.int (((p5 >>> ((16 : Int32) &&& 31)) &&& (255 : Int32)).toUInt32.toUInt16.toUInt32.toInt32)), .val (.int (((p5 >>> ((24 : Int32) &&& 31)) &&& (255 : Int32)).toUInt32.toUInt16.toUInt32.toInt32)), .val (.ref b44), .val (.ref b77), .val (.ref b123), .val (.ref b145), .unset] [(.long v41)])) _
          refine XS.lconst X163.here hx rfl (own_hb hby at_231) ?_
          show Steps p.tables e below (T163.setTop (mkF m 232 #[.val (.long p0), .second, .val (.long p1), .second, .val (.long p2), .second, .val (.long p3), .second, .val (.int p4), .val (.int p5), .val (.int v32), .val (.long v36), .second, .val (.long ((((p4 >>> ((2 : Int32) &&& 31)) &&& (3 : Int32)) - (1 : Int32)).toInt64)), .second, .val (.long v41), .second, .val (.int ((p5 &&& (255 : Int32)).toUInt32.toUInt16.toUInt32.toInt32)), .val (.int (((p5 >>> ((8 : Int32) &&& 31)) &&& (255 : Int32)).toUInt32.toUInt16.toUInt32.toInt32)), .val (.int (((p5 >>> ((16 : Int32) &&& 31)) &&& (255 : Int32)).toUInt32.toUInt16.toUInt32.toInt32)), .val (.int (((p5 >>> ((24 : Int32) &&& 31)) &&& (255 : Int32)).toUInt32.toUInt16.toUInt32.toInt32)), .val (.ref b44), .val (.ref b77), .val (.ref b123), .val (.ref b145), .unset] [(.long (0 : Int64)), (.long v41)])) _
          refine XS.lcmp X163.here hx rfl (own_hb hby at_232) rfl ?_
          show Steps p.tables e below (T163.setTop (mkF m 233 #[.val (.long p0), .second, .val (.long p1), .second, .val (.long p2), .second, .val (.long p3), .second, .val (.int p4), .val (.int p5), .val (.int v32), .val (.long v36), .second, .val (.long ((((p4 >>> ((2 : Int32) &&& 31)) &&& (3 : Int32)) - (1 : Int32)).toInt64)), .second, .val (.long v41), .second, .val (.int ((p5 &&& (255 : Int32)).toUInt32.toUInt16.toUInt32.toInt32)), .val (.int (((p5 >>> ((8 : Int32) &&& 31)) &&& (255 : Int32)).toUInt32.toUInt16.toUInt32.toInt32)), .val (.int (((p5 >>> ((16 : Int32) &&& 31)) &&& (255 : Int32)).toUInt32.toUInt16.toUInt32.toInt32)), .val (.int (((p5 >>> ((24 : Int32) &&& 31)) &&& (255 : Int32)).toUInt32.toUInt16.toUInt32.toInt32)), .val (.ref b44), .val (.ref b77), .val (.ref b123), .val (.ref b145), .unset] [(.int (lcmpW v41 (0 : Int64)))])) _
          refine XS.ifNo X163.here hx rfl (own_hb hby at_233) rfl ((if0 _ _).trans (tlt ((lw_gt _ _).mpr hc233_176)).2.2.2) ?_
          show Steps p.tables e below (T163.setTop (mkF m 236 #[.val (.long p0), .second, .val (.long p1), .second, .val (.long p2), .second, .val (.long p3), .second, .val (.int p4), .val (.int p5), .val (.int v32), .val (.long v36), .second, .val (.long ((((p4 >>> ((2 : Int32) &&& 31)) &&& (3 : Int32)) - (1 : Int32)).toInt64)), .second, .val (.long v41), .second, .val (.int ((p5 &&& (255 : Int32)).toUInt32.toUInt16.toUInt32.toInt32)), .val (.int (((p5 >>> ((8 : Int32) &&& 31)) &&& (255 : Int32)).toUInt32.toUInt16.toUInt32.toInt32)), .val (.int (((p5 >>> ((16 : Int32) &&& 31)) &&& (255 : Int32)).toUInt32.toUInt16.toUInt32.toInt32)), .val (.int (((p5 >>> ((24 : Int32) &&& 31)) &&& (255 : Int32)).toUInt32.toUInt16.toUInt32.toInt32)), .val (.ref b44), .val (.ref b77), .val (.ref b123), .val (.ref b145), .unset] [])) _
          refine XS.iconst X163.here hx rfl (own_hb hby at_236) ?_
          show Steps p.tables e below (T163.setTop (mkF m 237 #[.val (.long p0), .second, .val (.long p1), .second, .val (.long p2), .second, .val (.long p3), .second, .val (.int p4), .val (.int p5), .val (.int v32), .val (.long v36), .second, .val (.long ((((p4 >>> ((2 : Int32) &&& 31)) &&& (3 : Int32)) - (1 : Int32)).toInt64)), .second, .val (.long v41), .second, .val (.int ((p5 &&& (255 : Int32)).toUInt32.toUInt16.toUInt32.toInt32)), .val (.int (((p5 >>> ((8 : Int32) &&& 31)) &&& (255 : Int32)).toUInt32.toUInt16.toUInt32.toInt32)), .val (.int (((p5 >>> ((16 : Int32) &&& 31)) &&& (255 : Int32)).toUInt32.toUInt16.toUInt32.toInt32)), .val (.int (((p5 >>> ((24 : Int32) &&& 31)) &&& (255 : Int32)).toUInt32.toUInt16.toUInt32.toInt32)), .val (.ref b44), .val (.ref b77), .val (.ref b123), .val (.ref b145), .unset] [(.int (1 : Int32))])) _
          refine XS.goto X163.here hx rfl (pc0 := 237) (pc' := 241) rfl (own_hb hby at_237) (by decide) (by decide) ?_
          show Steps p.tables e below (T163.setTop (mkF m 241 #[.val (.long p0), .second, .val (.long p1), .second, .val (.long p2), .second, .val (.long p3), .second, .val (.int p4), .val (.int p5), .val (.int v32), .val (.long v36), .second, .val (.long ((((p4 >>> ((2 : Int32) &&& 31)) &&& (3 : Int32)) - (1 : Int32)).toInt64)), .second, .val (.long v41), .second, .val (.int ((p5 &&& (255 : Int32)).toUInt32.toUInt16.toUInt32.toInt32)), .val (.int (((p5 >>> ((8 : Int32) &&& 31)) &&& (255 : Int32)).toUInt32.toUInt16.toUInt32.toInt32)), .val (.int (((p5 >>> ((16 : Int32) &&& 31)) &&& (255 : Int32)).toUInt32.toUInt16.toUInt32.toInt32)), .val (.int (((p5 >>> ((24 : Int32) &&& 31)) &&& (255 : Int32)).toUInt32.toUInt16.toUInt32.toInt32)), .val (.ref b44), .val (.ref b77), .val (.ref b123), .val (.ref b145), .unset] [(.int (1 : Int32))])) _
          refine XS.istore X163.here hx rfl (own_hb hby at_241) rfl (l' := #[.val (.long p0), .second, .val (.long p1), .second, .val (.long p2), .second, .val (.long p3), .second, .val (.int p4), .val (.int p5), .val (.int v32), .val (.long v36), .second, .val (.long ((((p4 >>> ((2 : Int32) &&& 31)) &&& (3 : Int32)) - (1 : Int32)).toInt64)), .second, .val (.long v41), .second, .val (.int ((p5 &&& (255 : Int32)).toUInt32.toUInt16.toUInt32.toInt32)), .val (.int (((p5 >>> ((8 : Int32) &&& 31)) &&& (255 : Int32)).toUInt32.toUInt16.toUInt32.toInt32)), .val (.int (((p5 >>> ((16 : Int32) &&& 31)) &&& (255 : Int32)).toUInt32.toUInt16.toUInt32.toInt32)), .val (.int (((p5 >>> ((24 : Int32) &&& 31)) &&& (255 : Int32)).toUInt32.toUInt16.toUInt32.toInt32)), .val (.ref b44), .val (.ref b77), .val (.ref b123), .val (.ref b145), .val (.int (1 : Int32))]) rfl ?_
          exact kt
        · skip
          refine ⟨(0 : Int32), (Or.inr (Or.inr (Or.inr (⟨rfl, hc208_174, hc233_176⟩)))), fun t kt => ?_⟩
          show Steps p.tables e below (T163.setTop (mkF m 208 #[.val (.long p0), .second, .val (.long p1), .second, .val (.long p2), .second, .val (.long p3), .second, .val (.int p4), .val (.int p5), .val (.int v32), .val (.long v36), .second, .val (.long ((((p4 >>> ((2 : Int32) &&& 31)) &&& (3 : Int32)) - (1 : Int32)).toInt64)), .second, .val (.long v41), .second, .val (.int ((p5 &&& (255 : Int32)).toUInt32.toUInt16.toUInt32.toInt32)), .val (.int (((p5 >>> ((8 : Int32) &&& 31)) &&& (255 : Int32)).toUInt32.toUInt16.toUInt32.toInt32)), .val (.int (((p5 >>> ((16 : Int32) &&& 31)) &&& (255 : Int32)).toUInt32.toUInt16.toUInt32.toInt32)), .val (.int (((p5 >>> ((24 : Int32) &&& 31)) &&& (255 : Int32)).toUInt32.toUInt16.toUInt32.toInt32)), .val (.ref b44), .val (.ref b77), .val (.ref b123), .val (.ref b145), .unset] [(.int (lcmpW v36 p0))])) _
          refine XS.ifYes X163.here hx rfl (pc0 := 208) (pc' := 229) rfl (own_hb hby at_208) rfl ((if0 _ _).trans (feq (fun q => hc208_174 ((lw_eq _ _).mp q))).2) (by decide) (by decide) ?_
          show Steps p.tables e below (T163.setTop (mkF m 229 #[.val (.long p0), .second, .val (.long p1), .second, .val (.long p2), .second, .val (.long p3), .second, .val (.int p4), .val (.int p5), .val (.int v32), .val (.long v36), .second, .val (.long ((((p4 >>> ((2 : Int32) &&& 31)) &&& (3 : Int32)) - (1 : Int32)).toInt64)), .second, .val (.long v41), .second, .val (.int ((p5 &&& (255 : Int32)).toUInt32.toUInt16.toUInt32.toInt32)), .val (.int (((p5 >>> ((8 : Int32) &&& 31)) &&& (255 : Int32)).toUInt32.toUInt16.toUInt32.toInt32)), .val (.int (((p5 >>> ((16 : Int32) &&& 31)) &&& (255 : Int32)).toUInt32.toUInt16.toUInt32.toInt32)), .val (.int (((p5 >>> ((24 : Int32) &&& 31)) &&& (255 : Int32)).toUInt32.toUInt16.toUInt32.toInt32)), .val (.ref b44), .val (.ref b77), .val (.ref b123), .val (.ref b145), .unset] [])) _
          refine XS.lload X163.here hx rfl (own_hb hby at_229) rfl ?_
          show Steps p.tables e below (T163.setTop (mkF m 231 #[.val (.long p0), .second, .val (.long p1), .second, .val (.long p2), .second, .val (.long p3), .second, .val (.int p4), .val (.int p5), .val (.int v32), .val (.long v36), .second, .val (.long ((((p4 >>> ((2 : Int32) &&& 31)) &&& (3 : Int32)) - (1 : Int32)).toInt64)), .second, .val (.long v41), .second, .val (.int ((p5 &&& (255 : Int32)).toUInt32.toUInt16.toUInt32.toInt32)), .val (.int (((p5 >>> ((8 : Int32) &&& 31)) &&& (255 : Int32)).toUInt32.toUInt16.toUInt32.toInt32)), .val (.int (((p5 >>> ((16 : Int32) &&& 31)) &&& (255 : Int32)).toUInt32.toUInt16.toUInt32.toInt32)), .val (.int (((p5 >>> ((24 : Int32) &&& 31)) &&& (255 : Int32)).toUInt32.toUInt16.toUInt32.toInt32)), .val (.ref b44), .val (.ref b77), .val (.ref b123), .val (.ref b145), .unset] [(.long v41)])) _
          refine XS.lconst X163.here hx rfl (own_hb hby at_231) ?_
          show Steps p.tables e below (T163.setTop (mkF m 232 #[.val (.long p0), .second, .val (.long p1), .second, .val (.long p2), .second, .val (.long p3), .second, .val (.int p4), .val (.int p5), .val (.int v32), .val (.long v36), .second, .val (.long ((((p4 >>> ((2 : Int32) &&& 31)) &&& (3 : Int32)) - (1 : Int32)).toInt64)), .second, .val (.long v41), .second, .val (.int ((p5 &&& (255 : Int32)).toUInt32.toUInt16.toUInt32.toInt32)), .val (.int (((p5 >>> ((8 : Int32) &&& 31)) &&& (255 : Int32)).toUInt32.toUInt16.toUInt32.toInt32)), .val (.int (((p5 >>> ((16 : Int32) &&& 31)) &&& (255 : Int32)).toUInt32.toUInt16.toUInt32.toInt32)), .val (.int (((p5 >>> ((24 : Int32) &&& 31)) &&& (255 : Int32)).toUInt32.toUInt16.toUInt32.toInt32)), .val (.ref b44), .val (.ref b77), .val (.ref b123), .val (.ref b145), .unset] [(.long (0 : Int64)), (.long v41)])) _
          refine XS.lcmp X163.here hx rfl (own_hb hby at_232) rfl ?_
          show Steps p.tables e below (T163.setTop (mkF m 233 #[.val (.long p0), .second, .val (.long p1), .second, .val (.long p2), .second, .val (.long p3), .second, .val (.int p4), .val (.int p5), .val (.int v32), .val (.long v36), .second, .val (.long ((((p4 >>> ((2 : Int32) &&& 31)) &&& (3 : Int32)) - (1 : Int32)).toInt64)), .second, .val (.long v41), .second, .val (.int ((p5 &&& (255 : Int32)).toUInt32.toUInt16.toUInt32.toInt32)), .val (.int (((p5 >>> ((8 : Int32) &&& 31)) &&& (255 : Int32)).toUInt32.toUInt16.toUInt32.toInt32)), .val (.int (((p5 >>> ((16 : Int32) &&& 31)) &&& (255 : Int32)).toUInt32.toUInt16.toUInt32.toInt32)), .val (.int (((p5 >>> ((24 : Int32) &&& 31)) &&& (255 : Int32)).toUInt32.toUInt16.toUInt32.toInt32)), .val (.ref b44), .val (.ref b77), .val (.ref b123), .val (.ref b145), .unset] [(.int (lcmpW v41 (0 : Int64)))])) _
          refine XS.ifYes X163.here hx rfl (pc0 := 233) (pc' := 240) rfl (own_hb hby at_233) rfl ((if0 _ _).trans (flt (fun q => hc233_176 ((lw_gt _ _).mp q))).2.2.2) (by decide) (by decide) ?_
          show Steps p.tables e below (T163.setTop (mkF m 240 #[.val (.long p0), .second, .val (.long p1), .second, .val (.long p2), .second, .val (.long p3), .second, .val (.int p4), .val (.int p5), .val (.int v32), .val (.long v36), .second, .val (.long ((((p4 >>> ((2 : Int32) &&& 31)) &&& (3 : Int32)) - (1 : Int32)).toInt64)), .second, .val (.long v41), .second, .val (.int ((p5 &&& (255 : Int32)).toUInt32.toUInt16.toUInt32.toInt32)), .val (.int (((p5 >>> ((8 : Int32) &&& 31)) &&& (255 : Int32)).toUInt32.toUInt16.toUInt32.toInt32)), .val (.int (((p5 >>> ((16 : Int32) &&& 31)) &&& (255 : Int32)).toUInt32.toUInt16.toUInt32.toInt32)), .val (.int (((p5 >>> ((24 : Int32) &&& 31)) &&& (255 : Int32)).toUInt32.toUInt16.toUInt32.toInt32)), .val (.ref b44), .val (.ref b77), .val (.ref b123), .val (.ref b145), .unset] [])) _
          refine XS.iconst X163.here hx rfl (own_hb hby at_240) ?_
          show Steps p.tables e below (T163.setTop (mkF m 241 #[.val (.long p0), .second, .val (.long p1), .second, .val (.long p2), .second, .val (.long p3), .second, .val (.int p4), .val (.int p5), .val (.int v32), .val (.long v36), .second, .val (.long ((((p4 >>> ((2 : Int32) &&& 31)) &&& (3 : Int32)) - (1 : Int32)).toInt64)), .second, .val (.long v41), .second, .val (.int ((p5 &&& (255 : Int32)).toUInt32.toUInt16.toUInt32.toInt32)), .val (.int (((p5 >>> ((8 : Int32) &&& 31)) &&& (255 : Int32)).toUInt32.toUInt16.toUInt32.toInt32)), .val (.int (((p5 >>> ((16 : Int32) &&& 31)) &&& (255 : Int32)).toUInt32.toUInt16.toUInt32.toInt32)), .val (.int (((p5 >>> ((24 : Int32) &&& 31)) &&& (255 : Int32)).toUInt32.toUInt16.toUInt32.toInt32)), .val (.ref b44), .val (.ref b77), .val (.ref b123), .val (.ref b145), .unset] [(.int (0 : Int32))])) _
          refine XS.istore X163.here hx rfl (own_hb hby at_241) rfl (l' := #[.val (.long p0), .second, .val (.long p1), .second, .val (.long p2), .second, .val (.long p3), .second, .val (.int p4), .val (.int p5), .val (.int v32), .val (.long v36), .second, .val (.long ((((p4 >>> ((2 : Int32) &&& 31)) &&& (3 : Int32)) - (1 : Int32)).toInt64)), .second, .val (.long v41), .second, .val (.int ((p5 &&& (255 : Int32)).toUInt32.toUInt16.toUInt32.toInt32)), .val (.int (((p5 >>> ((8 : Int32) &&& 31)) &&& (255 : Int32)).toUInt32.toUInt16.toUInt32.toInt32)), .val (.int (((p5 >>> ((16 : Int32) &&& 31)) &&& (255 : Int32)).toUInt32.toUInt16.toUInt32.toInt32)), .val (.int (((p5 >>> ((24 : Int32) &&& 31)) &&& (255 : Int32)).toUInt32.toUInt16.toUInt32.toInt32)), .val (.ref b44), .val (.ref b77), .val (.ref b123), .val (.ref b145), .val (.int (0 : Int32))]) rfl ?_
          exact kt
    refine own_Go.of (S' := (T163.setTop (mkF m 243 #[.val (.long p0), .second, .val (.long p1), .second, .val (.long p2), .second, .val (.long p3), .second, .val (.int p4), .val (.int p5), .val (.int v32), .val (.long v36), .second, .val (.long ((((p4 >>> ((2 : Int32) &&& 31)) &&& (3 : Int32)) - (1 : Int32)).toInt64)), .second, .val (.long v41), .second, .val (.int ((p5 &&& (255 : Int32)).toUInt32.toUInt16.toUInt32.toInt32)), .val (.int (((p5 >>> ((8 : Int32) &&& 31)) &&& (255 : Int32)).toUInt32.toUInt16.toUInt32.toInt32)), .val (.int (((p5 >>> ((16 : Int32) &&& 31)) &&& (255 : Int32)).toUInt32.toUInt16.toUInt32.toInt32)), .val (.int (((p5 >>> ((24 : Int32) &&& 31)) &&& (255 : Int32)).toUInt32.toUInt16.toUInt32.toInt32)), .val (.ref b44), .val (.ref b77), .val (.ref b123), .val (.ref b145), .val (.int v177)] []))) st178 ?_
    have hfin : own_behind p0 p2 v36 v41 = v177 := by
      unfold own_behind
      rcases hd179 with ⟨q, q1, q2⟩ | ⟨q, q1, q2⟩ | ⟨q, q1, q2⟩ | ⟨q, q1, q2⟩
      all_goals (rw [q]; simp only [q1, q2, if_true, if_false])
    refine own_Go.of (S' := (T163.setTop (mkF m 247 #[.val (.long p0), .second, .val (.long p1), .second, .val (.long p2), .second, .val (.long p3), .second, .val (.int p4), .val (.int p5), .val (.int v32), .val (.long v36), .second, .val (.long ((((p4 >>> ((2 : Int32) &&& 31)) &&& (3 : Int32)) - (1 : Int32)).toInt64)), .second, .val (.long v41), .second, .val (.int ((p5 &&& (255 : Int32)).toUInt32.toUInt16.toUInt32.toInt32)), .val (.int (((p5 >>> ((8 : Int32) &&& 31)) &&& (255 : Int32)).toUInt32.toUInt16.toUInt32.toInt32)), .val (.int (((p5 >>> ((16 : Int32) &&& 31)) &&& (255 : Int32)).toUInt32.toUInt16.toUInt32.toInt32)), .val (.int (((p5 >>> ((24 : Int32) &&& 31)) &&& (255 : Int32)).toUInt32.toUInt16.toUInt32.toInt32)), .val (.ref b44), .val (.ref b77), .val (.ref b123), .val (.ref b145), .val (.int v177)] [(.ref b145), (.ref b123)]))) (fun t kt => ?_) ?_
    · show Steps p.tables e below (T163.setTop (mkF m 243 #[.val (.long p0), .second, .val (.long p1), .second, .val (.long p2), .second, .val (.long p3), .second, .val (.int p4), .val (.int p5), .val (.int v32), .val (.long v36), .second, .val (.long ((((p4 >>> ((2 : Int32) &&& 31)) &&& (3 : Int32)) - (1 : Int32)).toInt64)), .second, .val (.long v41), .second, .val (.int ((p5 &&& (255 : Int32)).toUInt32.toUInt16.toUInt32.toInt32)), .val (.int (((p5 >>> ((8 : Int32) &&& 31)) &&& (255 : Int32)).toUInt32.toUInt16.toUInt32.toInt32)), .val (.int (((p5 >>> ((16 : Int32) &&& 31)) &&& (255 : Int32)).toUInt32.toUInt16.toUInt32.toInt32)), .val (.int (((p5 >>> ((24 : Int32) &&& 31)) &&& (255 : Int32)).toUInt32.toUInt16.toUInt32.toInt32)), .val (.ref b44), .val (.ref b77), .val (.ref b123), .val (.ref b145), .val (.int v177)] [])) _
      refine XS.aload X163.here hx rfl (own_hb hby at_243) rfl rfl ?_
      show Steps p.tables e below (T163.setTop (mkF m 245 #[.val (.long p0), .second, .val (.long p1), .second, .val (.long p2), .second, .val (.long p3), .second, .val (.int p4), .val (.int p5), .val (.int v32), .val (.long v36), .second, .val (.long ((((p4 >>> ((2 : Int32) &&& 31)) &&& (3 : Int32)) - (1 : Int32)).toInt64)), .second, .val (.long v41), .second, .val (.int ((p5 &&& (255 : Int32)).toUInt32.toUInt16.toUInt32.toInt32)), .val (.int (((p5 >>> ((8 : Int32) &&& 31)) &&& (255 : Int32)).toUInt32.toUInt16.toUInt32.toInt32)), .val (.int (((p5 >>> ((16 : Int32) &&& 31)) &&& (255 : Int32)).toUInt32.toUInt16.toUInt32.toInt32)), .val (.int (((p5 >>> ((24 : Int32) &&& 31)) &&& (255 : Int32)).toUInt32.toUInt16.toUInt32.toInt32)), .val (.ref b44), .val (.ref b77), .val (.ref b123), .val (.ref b145), .val (.int v177)] [(.ref b123)])) _
      refine XS.aload X163.here hx rfl (own_hb hby at_245) rfl rfl ?_
      exact kt
    obtain ⟨cq180, kq180, q180a, q180b, q180c⟩ := isOf hZ rfl f169
    obtain ⟨_, _, ⟨T180, L180, k180, n180⟩, -, X180, ⟨Lc180, hQ180, l180, y180, z180⟩, st180⟩ := X163.virtualBack hx (y := (⟨"com/example/hearsay/hearsay/community/Stamp", "isBehind", "(Lcom/example/hearsay/hearsay/community/Stamp;)Z"⟩ : MethodName)) (z := (⟨"com/example/hearsay/hearsay/community/Stamp", "isBehind", "(Lcom/example/hearsay/hearsay/community/Stamp;)Z"⟩ : MethodName)) hown (mvT hZ (hw _ (List.mem_of_getElem? (i := 48) rfl))) (mvT hZ (hw _ (List.mem_of_getElem? (i := 49) rfl))) (notFace_of_selects (args := #[]) (mvT hZ (hw _ (List.mem_of_getElem? (i := 51) rfl)))) (mvT hZ (hw _ (List.mem_of_getElem? (i := 51) rfl))) (mvT hZ (hw _ (List.mem_of_getElem? (i := 50) rfl))) (by decide) (backOf (W := 0) (rm9 l Z a0 hw [] b123 b145 p0 p2 v36 v41 T163.heap n0 z173 f170 f171 p163_1 p163_2) hZ (hw _ (List.mem_of_getElem? (i := 52) rfl)) (hw _ (List.mem_of_getElem? (i := 32) rfl)) (by decide) (by decide)) q180a q180c (g := (mkF m 247 #[.val (.long p0), .second, .val (.long p1), .second, .val (.long p2), .second, .val (.long p3), .second, .val (.int p4), .val (.int p5), .val (.int v32), .val (.long v36), .second, .val (.long ((((p4 >>> ((2 : Int32) &&& 31)) &&& (3 : Int32)) - (1 : Int32)).toInt64)), .second, .val (.long v41), .second, .val (.int ((p5 &&& (255 : Int32)).toUInt32.toUInt16.toUInt32.toInt32)), .val (.int (((p5 >>> ((8 : Int32) &&& 31)) &&& (255 : Int32)).toUInt32.toUInt16.toUInt32.toInt32)), .val (.int (((p5 >>> ((16 : Int32) &&& 31)) &&& (255 : Int32)).toUInt32.toUInt16.toUInt32.toInt32)), .val (.int (((p5 >>> ((24 : Int32) &&& 31)) &&& (255 : Int32)).toUInt32.toUInt16.toUInt32.toInt32)), .val (.ref b44), .val (.ref b77), .val (.ref b123), .val (.ref b145), .val (.int v177)] [(.ref b145), (.ref b123)])) rfl (by rw [hml]; rfl) (Steps.refl _) (argsL := [(.ref b145)]) (rest := []) (lenOf pd_3 rfl) rfl (by show 2 * 0 + _ ≤ _; exact Nat.le_of_eq rfl) (own_hb hby at_247) (fun _ _ => ⟨rfl, rfl, (by decide : 8 + 0 ≤ _), (by decide : 22 + 0 ≤ _)⟩)
    dsimp only [Pt.U, Pt.locs, Pt.cells, Pt.slots] at X180 l180 y180 z180 st180 hQ180
    subst l180 y180 z180
    obtain ⟨rfl, N180q, hh180⟩ := hQ180
    have N180 := Fr.app N163 N180q
    refine own_Go.of (S' := (T180.setTop (mkF m 250 #[.val (.long p0), .second, .val (.long p1), .second, .val (.long p2), .second, .val (.long p3), .second, .val (.int p4), .val (.int p5), .val (.int v32), .val (.long v36), .second, .val (.long ((((p4 >>> ((2 : Int32) &&& 31)) &&& (3 : Int32)) - (1 : Int32)).toInt64)), .second, .val (.long v41), .second, .val (.int ((p5 &&& (255 : Int32)).toUInt32.toUInt16.toUInt32.toInt32)), .val (.int (((p5 >>> ((8 : Int32) &&& 31)) &&& (255 : Int32)).toUInt32.toUInt16.toUInt32.toInt32)), .val (.int (((p5 >>> ((16 : Int32) &&& 31)) &&& (255 : Int32)).toUInt32.toUInt16.toUInt32.toInt32)), .val (.int (((p5 >>> ((24 : Int32) &&& 31)) &&& (255 : Int32)).toUInt32.toUInt16.toUInt32.toInt32)), .val (.ref b44), .val (.ref b77), .val (.ref b123), .val (.ref b145), .val (.int v177)] [(.int (own_behind p0 p2 v36 v41))]))) (fun t kt => st180.trans kt) ?_
    refine own_Go.of (S' := (T180.setTop (mkF m 260 #[.val (.long p0), .second, .val (.long p1), .second, .val (.long p2), .second, .val (.long p3), .second, .val (.int p4), .val (.int p5), .val (.int v32), .val (.long v36), .second, .val (.long ((((p4 >>> ((2 : Int32) &&& 31)) &&& (3 : Int32)) - (1 : Int32)).toInt64)), .second, .val (.long v41), .second, .val (.int ((p5 &&& (255 : Int32)).toUInt32.toUInt16.toUInt32.toInt32)), .val (.int (((p5 >>> ((8 : Int32) &&& 31)) &&& (255 : Int32)).toUInt32.toUInt16.toUInt32.toInt32)), .val (.int (((p5 >>> ((16 : Int32) &&& 31)) &&& (255 : Int32)).toUInt32.toUInt16.toUInt32.toInt32)), .val (.int (((p5 >>> ((24 : Int32) &&& 31)) &&& (255 : Int32)).toUInt32.toUInt16.toUInt32.toInt32)), .val (.ref b44), .val (.ref b77), .val (.ref b123), .val (.ref b145), .val (.int v177)] [(.int (1 : Int32))]))) (fun t kt => ?_) ?_
    · show Steps p.tables e below (T180.setTop (mkF m 250 #[.val (.long p0), .second, .val (.long p1), .second, .val (.long p2), .second, .val (.long p3), .second, .val (.int p4), .val (.int p5), .val (.int v32), .val (.long v36), .second, .val (.long ((((p4 >>> ((2 : Int32) &&& 31)) &&& (3 : Int32)) - (1 : Int32)).toInt64)), .second, .val (.long v41), .second, .val (.int ((p5 &&& (255 : Int32)).toUInt32.toUInt16.toUInt32.toInt32)), .val (.int (((p5 >>> ((8 : Int32) &&& 31)) &&& (255 : Int32)).toUInt32.toUInt16.toUInt32.toInt32)), .val (.int (((p5 >>> ((16 : Int32) &&& 31)) &&& (255 : Int32)).toUInt32.toUInt16.toUInt32.toInt32)), .val (.int (((p5 >>> ((24 : Int32) &&& 31)) &&& (255 : Int32)).toUInt32.toUInt16.toUInt32.toInt32)), .val (.ref b44), .val (.ref b77), .val (.ref b123), .val (.ref b145), .val (.int v177)] [(.int (own_behind p0 p2 v36 v41))])) _
      refine XS.iload X180.here hx rfl (own_hb hby at_250) rfl ?_
      show Steps p.tables e below (T180.setTop (mkF m 252 #[.val (.long p0), .second, .val (.long p1), .second, .val (.long p2), .second, .val (.long p3), .second, .val (.int p4), .val (.int p5), .val (.int v32), .val (.long v36), .second, .val (.long ((((p4 >>> ((2 : Int32) &&& 31)) &&& (3 : Int32)) - (1 : Int32)).toInt64)), .second, .val (.long v41), .second, .val (.int ((p5 &&& (255 : Int32)).toUInt32.toUInt16.toUInt32.toInt32)), .val (.int (((p5 >>> ((8 : Int32) &&& 31)) &&& (255 : Int32)).toUInt32.toUInt16.toUInt32.toInt32)), .val (.int (((p5 >>> ((16 : Int32) &&& 31)) &&& (255 : Int32)).toUInt32.toUInt16.toUInt32.toInt32)), .val (.int (((p5 >>> ((24 : Int32) &&& 31)) &&& (255 : Int32)).toUInt32.toUInt16.toUInt32.toInt32)), .val (.ref b44), .val (.ref b77), .val (.ref b123), .val (.ref b145), .val (.int v177)] [(.int v177), (.int (own_behind p0 p2 v36 v41))])) _
      refine XS.icmpNo X180.here hx rfl (own_hb hby at_252) rfl (teq hfin).2 ?_
      show Steps p.tables e below (T180.setTop (mkF m 255 #[.val (.long p0), .second, .val (.long p1), .second, .val (.long p2), .second, .val (.long p3), .second, .val (.int p4), .val (.int p5), .val (.int v32), .val (.long v36), .second, .val (.long ((((p4 >>> ((2 : Int32) &&& 31)) &&& (3 : Int32)) - (1 : Int32)).toInt64)), .second, .val (.long v41), .second, .val (.int ((p5 &&& (255 : Int32)).toUInt32.toUInt16.toUInt32.toInt32)), .val (.int (((p5 >>> ((8 : Int32) &&& 31)) &&& (255 : Int32)).toUInt32.toUInt16.toUInt32.toInt32)), .val (.int (((p5 >>> ((16 : Int32) &&& 31)) &&& (255 : Int32)).toUInt32.toUInt16.toUInt32.toInt32)), .val (.int (((p5 >>> ((24 : Int32) &&& 31)) &&& (255 : Int32)).toUInt32.toUInt16.toUInt32.toInt32)), .val (.ref b44), .val (.ref b77), .val (.ref b123), .val (.ref b145), .val (.int v177)] [])) _
      refine XS.iconst X180.here hx rfl (own_hb hby at_255) ?_
      show Steps p.tables e below (T180.setTop (mkF m 256 #[.val (.long p0), .second, .val (.long p1), .second, .val (.long p2), .second, .val (.long p3), .second, .val (.int p4), .val (.int p5), .val (.int v32), .val (.long v36), .second, .val (.long ((((p4 >>> ((2 : Int32) &&& 31)) &&& (3 : Int32)) - (1 : Int32)).toInt64)), .second, .val (.long v41), .second, .val (.int ((p5 &&& (255 : Int32)).toUInt32.toUInt16.toUInt32.toInt32)), .val (.int (((p5 >>> ((8 : Int32) &&& 31)) &&& (255 : Int32)).toUInt32.toUInt16.toUInt32.toInt32)), .val (.int (((p5 >>> ((16 : Int32) &&& 31)) &&& (255 : Int32)).toUInt32.toUInt16.toUInt32.toInt32)), .val (.int (((p5 >>> ((24 : Int32) &&& 31)) &&& (255 : Int32)).toUInt32.toUInt16.toUInt32.toInt32)), .val (.ref b44), .val (.ref b77), .val (.ref b123), .val (.ref b145), .val (.int v177)] [(.int (1 : Int32))])) _
      refine XS.goto X180.here hx rfl (pc0 := 256) (pc' := 260) rfl (own_hb hby at_256) (by decide) (by decide) ?_
      exact kt
    exact own_retN X180 hx hlk (t := .boolean) hret (by simp) (own_hb hby at_260) hh180 ⟨rfl, N180⟩ (by decide) (by decide)
  · skip
    refine own_Go.of (S' := (T71.setTop (mkF m 175 #[.val (.long p0), .second, .val (.long p1), .second, .val (.long p2), .second, .val (.long p3), .second, .val (.int p4), .val (.int p5), .val (.int v32), .val (.long v36), .second, .val (.long ((((p4 >>> ((2 : Int32) &&& 31)) &&& (3 : Int32)) - (1 : Int32)).toInt64)), .second, .val (.long v41), .second, .val (.int ((p5 &&& (255 : Int32)).toUInt32.toUInt16.toUInt32.toInt32)), .val (.int (((p5 >>> ((8 : Int32) &&& 31)) &&& (255 : Int32)).toUInt32.toUInt16.toUInt32.toInt32)), .val (.int (((p5 >>> ((16 : Int32) &&& 31)) &&& (255 : Int32)).toUInt32.toUInt16.toUInt32.toInt32)), .val (.int (((p5 >>> ((24 : Int32) &&& 31)) &&& (255 : Int32)).toUInt32.toUInt16.toUInt32.toInt32)), .val (.ref b44), .val (.ref b44), .unset, .unset, .unset] []))) (fun t kt => ?_) ?_
    · show Steps p.tables e below (T71.setTop (mkF m 145 #[.val (.long p0), .second, .val (.long p1), .second, .val (.long p2), .second, .val (.long p3), .second, .val (.int p4), .val (.int p5), .val (.int v32), .val (.long v36), .second, .val (.long ((((p4 >>> ((2 : Int32) &&& 31)) &&& (3 : Int32)) - (1 : Int32)).toInt64)), .second, .val (.long v41), .second, .val (.int ((p5 &&& (255 : Int32)).toUInt32.toUInt16.toUInt32.toInt32)), .val (.int (((p5 >>> ((8 : Int32) &&& 31)) &&& (255 : Int32)).toUInt32.toUInt16.toUInt32.toInt32)), .val (.int (((p5 >>> ((16 : Int32) &&& 31)) &&& (255 : Int32)).toUInt32.toUInt16.toUInt32.toInt32)), .val (.int (((p5 >>> ((24 : Int32) &&& 31)) &&& (255 : Int32)).toUInt32.toUInt16.toUInt32.toInt32)), .val (.ref b44), .unset, .unset, .unset, .unset] [(.int (p4 &&& (32 : Int32)))])) _
      refine XS.ifNo X71.here hx rfl (own_hb hby at_145) rfl ((if0 _ _).trans (feq hc145_76).1) ?_
      show Steps p.tables e below (T71.setTop (mkF m 148 #[.val (.long p0), .second, .val (.long p1), .second, .val (.long p2), .second, .val (.long p3), .second, .val (.int p4), .val (.int p5), .val (.int v32), .val (.long v36), .second, .val (.long ((((p4 >>> ((2 : Int32) &&& 31)) &&& (3 : Int32)) - (1 : Int32)).toInt64)), .second, .val (.long v41), .second, .val (.int ((p5 &&& (255 : Int32)).toUInt32.toUInt16.toUInt32.toInt32)), .val (.int (((p5 >>> ((8 : Int32) &&& 31)) &&& (255 : Int32)).toUInt32.toUInt16.toUInt32.toInt32)), .val (.int (((p5 >>> ((16 : Int32) &&& 31)) &&& (255 : Int32)).toUInt32.toUInt16.toUInt32.toInt32)), .val (.int (((p5 >>> ((24 : Int32) &&& 31)) &&& (255 : Int32)).toUInt32.toUInt16.toUInt32.toInt32)), .val (.ref b44), .unset, .unset, .unset, .unset] [])) _
      refine XS.aload X71.here hx rfl (own_hb hby at_148) rfl rfl ?_
      show Steps p.tables e below (T71.setTop (mkF m 150 #[.val (.long p0), .second, .val (.long p1), .second, .val (.long p2), .second, .val (.long p3), .second, .val (.int p4), .val (.int p5), .val (.int v32), .val (.long v36), .second, .val (.long ((((p4 >>> ((2 : Int32) &&& 31)) &&& (3 : Int32)) - (1 : Int32)).toInt64)), .second, .val (.long v41), .second, .val (.int ((p5 &&& (255 : Int32)).toUInt32.toUInt16.toUInt32.toInt32)), .val (.int (((p5 >>> ((8 : Int32) &&& 31)) &&& (255 : Int32)).toUInt32.toUInt16.toUInt32.toInt32)), .val (.int (((p5 >>> ((16 : Int32) &&& 31)) &&& (255 : Int32)).toUInt32.toUInt16.toUInt32.toInt32)), .val (.int (((p5 >>> ((24 : Int32) &&& 31)) &&& (255 : Int32)).toUInt32.toUInt16.toUInt32.toInt32)), .val (.ref b44), .unset, .unset, .unset, .unset] [(.ref b44)])) _
      refine XS.goto X71.here hx rfl (pc0 := 150) (pc' := 173) rfl (own_hb hby at_150) (by decide) (by decide) ?_
      show Steps p.tables e below (T71.setTop (mkF m 173 #[.val (.long p0), .second, .val (.long p1), .second, .val (.long p2), .second, .val (.long p3), .second, .val (.int p4), .val (.int p5), .val (.int v32), .val (.long v36), .second, .val (.long ((((p4 >>> ((2 : Int32) &&& 31)) &&& (3 : Int32)) - (1 : Int32)).toInt64)), .second, .val (.long v41), .second, .val (.int ((p5 &&& (255 : Int32)).toUInt32.toUInt16.toUInt32.toInt32)), .val (.int (((p5 >>> ((8 : Int32) &&& 31)) &&& (255 : Int32)).toUInt32.toUInt16.toUInt32.toInt32)), .val (.int (((p5 >>> ((16 : Int32) &&& 31)) &&& (255 : Int32)).toUInt32.toUInt16.toUInt32.toInt32)), .val (.int (((p5 >>> ((24 : Int32) &&& 31)) &&& (255 : Int32)).toUInt32.toUInt16.toUInt32.toInt32)), .val (.ref b44), .unset, .unset, .unset, .unset] [(.ref b44)])) _
      refine XS.astore X71.here hx rfl (own_hb hby at_173) rfl rfl (l' := #[.val (.long p0), .second, .val (.long p1), .second, .val (.long p2), .second, .val (.long p3), .second, .val (.int p4), .val (.int p5), .val (.int v32), .val (.long v36), .second, .val (.long ((((p4 >>> ((2 : Int32) &&& 31)) &&& (3 : Int32)) - (1 : Int32)).toInt64)), .second, .val (.long v41), .second, .val (.int ((p5 &&& (255 : Int32)).toUInt32.toUInt16.toUInt32.toInt32)), .val (.int (((p5 >>> ((8 : Int32) &&& 31)) &&& (255 : Int32)).toUInt32.toUInt16.toUInt32.toInt32)), .val (.int (((p5 >>> ((16 : Int32) &&& 31)) &&& (255 : Int32)).toUInt32.toUInt16.toUInt32.toInt32)), .val (.int (((p5 >>> ((24 : Int32) &&& 31)) &&& (255 : Int32)).toUInt32.toUInt16.toUInt32.toInt32)), .val (.ref b44), .val (.ref b44), .unset, .unset, .unset]) rfl ?_
      exact kt
    obtain ⟨T181, h181, X181, e181, E181, A181, D181, -, st181⟩ := newO X71 hx hZ hown (hw _ (List.mem_of_getElem? (i := 30) rfl)) (hw _ (List.mem_of_getElem? (i := 31) rfl)) (hw _ (List.mem_of_getElem? (i := 32) rfl)) rfl (g := (mkF m 175 #[.val (.long p0), .second, .val (.long p1), .second, .val (.long p2), .second, .val (.long p3), .second, .val (.int p4), .val (.int p5), .val (.int v32), .val (.long v36), .second, .val (.long ((((p4 >>> ((2 : Int32) &&& 31)) &&& (3 : Int32)) - (1 : Int32)).toInt64)), .second, .val (.long v41), .second, .val (.int ((p5 &&& (255 : Int32)).toUInt32.toUInt16.toUInt32.toInt32)), .val (.int (((p5 >>> ((8 : Int32) &&& 31)) &&& (255 : Int32)).toUInt32.toUInt16.toUInt32.toInt32)), .val (.int (((p5 >>> ((16 : Int32) &&& 31)) &&& (255 : Int32)).toUInt32.toUInt16.toUInt32.toInt32)), .val (.int (((p5 >>> ((24 : Int32) &&& 31)) &&& (255 : Int32)).toUInt32.toUInt16.toUInt32.toInt32)), .val (.ref b44), .val (.ref b44), .unset, .unset, .unset] [])) rfl (own_hb hby at_175) (by decide) (by decide)
    obtain ⟨b181, g181⟩ : ∃ z, z = T71.heap.size := ⟨_, rfl⟩
    rw [← g181] at A181 D181 st181
    have gx181 : n0 ≤ b181 := Nat.le_trans z75 (Nat.le_of_eq g181.symm)
    have ne182 : b44 ≠ b181 := Nat.ne_of_lt (Nat.lt_of_lt_of_le f73.lt (Nat.le_of_eq g181.symm))
    have ne183 : b49 ≠ b181 := Nat.ne_of_lt (Nat.lt_of_lt_of_le f74.lt (Nat.le_of_eq g181.symm))
    refine own_Go.of (S' := (T181.setTop (mkF m 178 #[.val (.long p0), .second, .val (.long p1), .second, .val (.long p2), .second, .val (.long p3), .second, .val (.int p4), .val (.int p5), .val (.int v32), .val (.long v36), .second, .val (.long ((((p4 >>> ((2 : Int32) &&& 31)) &&& (3 : Int32)) - (1 : Int32)).toInt64)), .second, .val (.long v41), .second, .val (.int ((p5 &&& (255 : Int32)).toUInt32.toUInt16.toUInt32.toInt32)), .val (.int (((p5 >>> ((8 : Int32) &&& 31)) &&& (255 : Int32)).toUInt32.toUInt16.toUInt32.toInt32)), .val (.int (((p5 >>> ((16 : Int32) &&& 31)) &&& (255 : Int32)).toUInt32.toUInt16.toUInt32.toInt32)), .val (.int (((p5 >>> ((24 : Int32) &&& 31)) &&& (255 : Int32)).toUInt32.toUInt16.toUInt32.toInt32)), .val (.ref b44), .val (.ref b44), .unset, .unset, .unset] [(.ref b181)]))) st181 ?_
    have f184 : Old Z n0 h181 := f72.ext E181
    have f185 : Exa Z h181 b44 "java/lang/String" := f73.ext E181
    have f186 : own_Ar Z h181 b49 .char 2 (own_I (own_set (own_set (fun _ => (0 : Int32)) 0 (nar .char ((p5 &&& (255 : Int32)).toUInt32.toUInt16.toUInt32.toInt32))) 1 (nar .char (((p5 >>> ((8 : Int32) &&& 31)) &&& (255 : Int32)).toUInt32.toUInt16.toUInt32.toInt32)))) := f74.ext E181
    have z187 : n0 ≤ h181.size := Nat.le_trans z75 E181.1
    have f188 : Fld Z h181 b181 "com/example/hearsay/hearsay/community/Stamp" "name" "Ljava/lang/String;" .null := D181 (Or.inr (hw _ (List.mem_of_getElem? (i := 43) rfl))) (ty := (.object "java/lang/String")) (by decide)
    have f189 : Fld Z h181 b181 "com/example/hearsay/hearsay/community/Stamp" "identity" "J" (.long (0 : Int64)) := D181 (Or.inr (hw _ (List.mem_of_getElem? (i := 45) rfl))) (ty := .long) (by decide)
    have f190 : Fld Z h181 b181 "com/example/hearsay/hearsay/community/Stamp" "version" "J" (.long (0 : Int64)) := D181 (Or.inr (hw _ (List.mem_of_getElem? (i := 47) rfl))) (ty := .long) (by decide)
    refine own_Go.of (S' := (T181.setTop (mkF m 184 #[.val (.long p0), .second, .val (.long p1), .second, .val (.long p2), .second, .val (.long p3), .second, .val (.int p4), .val (.int p5), .val (.int v32), .val (.long v36), .second, .val (.long ((((p4 >>> ((2 : Int32) &&& 31)) &&& (3 : Int32)) - (1 : Int32)).toInt64)), .second, .val (.long v41), .second, .val (.int ((p5 &&& (255 : Int32)).toUInt32.toUInt16.toUInt32.toInt32)), .val (.int (((p5 >>> ((8 : Int32) &&& 31)) &&& (255 : Int32)).toUInt32.toUInt16.toUInt32.toInt32)), .val (.int (((p5 >>> ((16 : Int32) &&& 31)) &&& (255 : Int32)).toUInt32.toUInt16.toUInt32.toInt32)), .val (.int (((p5 >>> ((24 : Int32) &&& 31)) &&& (255 : Int32)).toUInt32.toUInt16.toUInt32.toInt32)), .val (.ref b44), .val (.ref b44), .unset, .unset, .unset] [(.long p2), (.long p0), (.ref b44), (.ref b181), (.ref b181)]))) (fun t kt => ?_) ?_
    · show Steps p.tables e below (T181.setTop (mkF m 178 #[.val (.long p0), .second, .val (.long p1), .second, .val (.long p2), .second, .val (.long p3), .second, .val (.int p4), .val (.int p5), .val (.int v32), .val (.long v36), .second, .val (.long ((((p4 >>> ((2 : Int32) &&& 31)) &&& (3 : Int32)) - (1 : Int32)).toInt64)), .second, .val (.long v41), .second, .val (.int ((p5 &&& (255 : Int32)).toUInt32.toUInt16.toUInt32.toInt32)), .val (.int (((p5 >>> ((8 : Int32) &&& 31)) &&& (255 : Int32)).toUInt32.toUInt16.toUInt32.toInt32)), .val (.int (((p5 >>> ((16 : Int32) &&& 31)) &&& (255 : Int32)).toUInt32.toUInt16.toUInt32.toInt32)), .val (.int (((p5 >>> ((24 : Int32) &&& 31)) &&& (255 : Int32)).toUInt32.toUInt16.toUInt32.toInt32)), .val (.ref b44), .val (.ref b44), .unset, .unset, .unset] [(.ref b181)])) _
      refine XS.dup X181.here hx rfl (own_hb hby at_178) rfl rfl ?_
      show Steps p.tables e below (T181.setTop (mkF m 179 #[.val (.long p0), .second, .val (.long p1), .second, .val (.long p2), .second, .val (.long p3), .second, .val (.int p4), .val (.int p5), .val (.int v32), .val (.long v36), .second, .val (.long ((((p4 >>> ((2 : Int32) &&& 31)) &&& (3 : Int32)) - (1 : Int32)).toInt64)), .second, .val (.long v41), .second, .val (.int ((p5 &&& (255 : Int32)).toUInt32.toUInt16.toUInt32.toInt32)), .val (.int (((p5 >>> ((8 : Int32) &&& 31)) &&& (255 : Int32)).toUInt32.toUInt16.toUInt32.toInt32)), .val (.int (((p5 >>> ((16 : Int32) &&& 31)) &&& (255 : Int32)).toUInt32.toUInt16.toUInt32.toInt32)), .val (.int (((p5 >>> ((24 : Int32) &&& 31)) &&& (255 : Int32)).toUInt32.toUInt16.toUInt32.toInt32)), .val (.ref b44), .val (.ref b44), .unset, .unset, .unset] [(.ref b181), (.ref b181)])) _
      refine XS.aload X181.here hx rfl (own_hb hby at_179) rfl rfl ?_
      show Steps p.tables e below (T181.setTop (mkF m 181 #[.val (.long p0), .second, .val (.long p1), .second, .val (.long p2), .second, .val (.long p3), .second, .val (.int p4), .val (.int p5), .val (.int v32), .val (.long v36), .second, .val (.long ((((p4 >>> ((2 : Int32) &&& 31)) &&& (3 : Int32)) - (1 : Int32)).toInt64)), .second, .val (.long v41), .second, .val (.int ((p5 &&& (255 : Int32)).toUInt32.toUInt16.toUInt32.toInt32)), .val (.int (((p5 >>> ((8 : Int32) &&& 31)) &&& (255 : Int32)).toUInt32.toUInt16.toUInt32.toInt32)), .val (.int (((p5 >>> ((16 : Int32) &&& 31)) &&& (255 : Int32)).toUInt32.toUInt16.toUInt32.toInt32)), .val (.int (((p5 >>> ((24 : Int32) &&& 31)) &&& (255 : Int32)).toUInt32.toUInt16.toUInt32.toInt32)), .val (.ref b44), .val (.ref b44), .unset, .unset, .unset] [(.ref b44), (.ref b181), (.ref b181)])) _
      refine XS.lloadN X181.here hx rfl (own_hb hby at_181) rfl ?_
      show Steps p.tables e below (T181.setTop (mkF m 182 #[.val (.long p0), .second, .val (.long p1), .second, .val (.long p2), .second, .val (.long p3), .second, .val (.int p4), .val (.int p5), .val (.int v32), .val (.long v36), .second, .val (.long ((((p4 >>> ((2 : Int32) &&& 31)) &&& (3 : Int32)) - (1 : Int32)).toInt64)), .second, .val (.long v41), .second, .val (.int ((p5 &&& (255 : Int32)).toUInt32.toUInt16.toUInt32.toInt32)), .val (.int (((p5 >>> ((8 : Int32) &&& 31)) &&& (255 : Int32)).toUInt32.toUInt16.toUInt32.toInt32)), .val (.int (((p5 >>> ((16 : Int32) &&& 31)) &&& (255 : Int32)).toUInt32.toUInt16.toUInt32.toInt32)), .val (.int (((p5 >>> ((24 : Int32) &&& 31)) &&& (255 : Int32)).toUInt32.toUInt16.toUInt32.toInt32)), .val (.ref b44), .val (.ref b44), .unset, .unset, .unset] [(.long p0), (.ref b44), (.ref b181), (.ref b181)])) _
      refine XS.lload X181.here hx rfl (own_hb hby at_182) rfl ?_
      exact kt
    obtain ⟨_, _, ⟨T191, L191, k191, n191⟩, -, X191, ⟨Lc191, hQ191, l191, y191, z191⟩, st191⟩ := X181.specialBack hx (y := (⟨"com/example/hearsay/hearsay/community/Stamp", "<init>", "(Ljava/lang/String;JJ)V"⟩ : MethodName)) rfl hown (mvT hZ (hw _ (List.mem_of_getElem? (i := 33) rfl))) (mvT hZ (hw _ (List.mem_of_getElem? (i := 34) rfl))) (mvT hZ (hw _ (List.mem_of_getElem? (i := 35) rfl))) (by decide) (backOf (W := 1) (rm7 l Z a0 hw [] b181 b44 p0 p2 .null (.long (0 : Int64)) (.long (0 : Int64)) h181 n0 z187 A181 f188 f189 f190 gx181) hZ (hw _ (List.mem_of_getElem? (i := 35) rfl)) (hw _ (List.mem_of_getElem? (i := 32) rfl)) (by decide) (by decide)) (g := (mkF m 184 #[.val (.long p0), .second, .val (.long p1), .second, .val (.long p2), .second, .val (.long p3), .second, .val (.int p4), .val (.int p5), .val (.int v32), .val (.long v36), .second, .val (.long ((((p4 >>> ((2 : Int32) &&& 31)) &&& (3 : Int32)) - (1 : Int32)).toInt64)), .second, .val (.long v41), .second, .val (.int ((p5 &&& (255 : Int32)).toUInt32.toUInt16.toUInt32.toInt32)), .val (.int (((p5 >>> ((8 : Int32) &&& 31)) &&& (255 : Int32)).toUInt32.toUInt16.toUInt32.toInt32)), .val (.int (((p5 >>> ((16 : Int32) &&& 31)) &&& (255 : Int32)).toUInt32.toUInt16.toUInt32.toInt32)), .val (.int (((p5 >>> ((24 : Int32) &&& 31)) &&& (255 : Int32)).toUInt32.toUInt16.toUInt32.toInt32)), .val (.ref b44), .val (.ref b44), .unset, .unset, .unset] [(.long p2), (.long p0), (.ref b44), (.ref b181), (.ref b181)])) rfl (by rw [hml]; rfl) (Steps.refl _) (a := b181) (argsL := [(.ref b44), (.long p0), (.long p2)]) (rest := [(.ref b181)]) (lenOf pd_2 rfl) rfl (by show 2 * 0 + _ ≤ _; exact Nat.le_of_eq rfl) (own_hb hby at_184) (fun _ _ => ⟨rfl, e181, (by decide : 4 + 0 ≤ _), (by decide : 11 + 0 ≤ _)⟩)
    dsimp only [Pt.U, Pt.locs, Pt.cells, Pt.slots] at X191 l191 y191 z191 st191 hQ191
    subst l191 y191 z191
    obtain ⟨rfl, N191q, K191, p191_0, p191_1, p191_2⟩ := hQ191
    have N191 := Fr.app N71 N191q
    refine own_Go.of (S' := (T191.setTop (mkF m 187 #[.val (.long p0), .second, .val (.long p1), .second, .val (.long p2), .second, .val (.long p3), .second, .val (.int p4), .val (.int p5), .val (.int v32), .val (.long v36), .second, .val (.long ((((p4 >>> ((2 : Int32) &&& 31)) &&& (3 : Int32)) - (1 : Int32)).toInt64)), .second, .val (.long v41), .second, .val (.int ((p5 &&& (255 : Int32)).toUInt32.toUInt16.toUInt32.toInt32)), .val (.int (((p5 >>> ((8 : Int32) &&& 31)) &&& (255 : Int32)).toUInt32.toUInt16.toUInt32.toInt32)), .val (.int (((p5 >>> ((16 : Int32) &&& 31)) &&& (255 : Int32)).toUInt32.toUInt16.toUInt32.toInt32)), .val (.int (((p5 >>> ((24 : Int32) &&& 31)) &&& (255 : Int32)).toUInt32.toUInt16.toUInt32.toInt32)), .val (.ref b44), .val (.ref b44), .unset, .unset, .unset] [(.ref b181)]))) (fun t kt => st191.trans kt) ?_
    have f192 : Old Z n0 T191.heap := f184.keep K191 (allS gx181 all0)
    have f193 : Exa Z T191.heap b44 "java/lang/String" := f185.keep K191
    have f194 : own_Ar Z T191.heap b49 .char 2 (own_I (own_set (own_set (fun _ => (0 : Int32)) 0 (nar .char ((p5 &&& (255 : Int32)).toUInt32.toUInt16.toUInt32.toInt32))) 1 (nar .char (((p5 >>> ((8 : Int32) &&& 31)) &&& (255 : Int32)).toUInt32.toUInt16.toUInt32.toInt32)))) := f186.keep K191 (ninS ne183 nin0)
    have f195 : Exa Z T191.heap b181 "com/example/hearsay/hearsay/community/Stamp" := A181.keep K191
    have z196 : n0 ≤ T191.heap.size := Nat.le_trans z187 K191.1
    refine own_Go.of (S' := (T191.setTop (mkF m 189 #[.val (.long p0), .second, .val (.long p1), .second, .val (.long p2), .second, .val (.long p3), .second, .val (.int p4), .val (.int p5), .val (.int v32), .val (.long v36), .second, .val (.long ((((p4 >>> ((2 : Int32) &&& 31)) &&& (3 : Int32)) - (1 : Int32)).toInt64)), .second, .val (.long v41), .second, .val (.int ((p5 &&& (255 : Int32)).toUInt32.toUInt16.toUInt32.toInt32)), .val (.int (((p5 >>> ((8 : Int32) &&& 31)) &&& (255 : Int32)).toUInt32.toUInt16.toUInt32.toInt32)), .val (.int (((p5 >>> ((16 : Int32) &&& 31)) &&& (255 : Int32)).toUInt32.toUInt16.toUInt32.toInt32)), .val (.int (((p5 >>> ((24 : Int32) &&& 31)) &&& (255 : Int32)).toUInt32.toUInt16.toUInt32.toInt32)), .val (.ref b44), .val (.ref b44), .val (.ref b181), .unset, .unset] []))) (fun t kt => ?_) ?_
    · show Steps p.tables e below (T191.setTop (mkF m 187 #[.val (.long p0), .second, .val (.long p1), .second, .val (.long p2), .second, .val (.long p3), .second, .val (.int p4), .val (.int p5), .val (.int v32), .val (.long v36), .second, .val (.long ((((p4 >>> ((2 : Int32) &&& 31)) &&& (3 : Int32)) - (1 : Int32)).toInt64)), .second, .val (.long v41), .second, .val (.int ((p5 &&& (255 : Int32)).toUInt32.toUInt16.toUInt32.toInt32)), .val (.int (((p5 >>> ((8 : Int32) &&& 31)) &&& (255 : Int32)).toUInt32.toUInt16.toUInt32.toInt32)), .val (.int (((p5 >>> ((16 : Int32) &&& 31)) &&& (255 : Int32)).toUInt32.toUInt16.toUInt32.toInt32)), .val (.int (((p5 >>> ((24 : Int32) &&& 31)) &&& (255 : Int32)).toUInt32.toUInt16.toUInt32.toInt32)), .val (.ref b44), .val (.ref b44), .unset, .unset, .unset] [(.ref b181)])) _
      refine XS.astore X191.here hx rfl (own_hb hby at_187) rfl rfl (l' := #[.val (.long p0), .second, .val (.long p1), .second, .val (.long p2), .second, .val (.long p3), .second, .val (.int p4), .val (.int p5), .val (.int v32), .val (.long v36), .second, .val (.long ((((p4 >>> ((2 : Int32) &&& 31)) &&& (3 : Int32)) - (1 : Int32)).toInt64)), .second, .val (.long v41), .second, .val (.int ((p5 &&& (255 : Int32)).toUInt32.toUInt16.toUInt32.toInt32)), .val (.int (((p5 >>> ((8 : Int32) &&& 31)) &&& (255 : Int32)).toUInt32.toUInt16.toUInt32.toInt32)), .val (.int (((p5 >>> ((16 : Int32) &&& 31)) &&& (255 : Int32)).toUInt32.toUInt16.toUInt32.toInt32)), .val (.int (((p5 >>> ((24 : Int32) &&& 31)) &&& (255 : Int32)).toUInt32.toUInt16.toUInt32.toInt32)), .val (.ref b44), .val (.ref b44), .val (.ref b181), .unset, .unset]) rfl ?_
      exact kt
    obtain ⟨T197, h197, X197, e197, E197, A197, D197, -, st197⟩ := newO X191 hx hZ hown (hw _ (List.mem_of_getElem? (i := 30) rfl)) (hw _ (List.mem_of_getElem? (i := 31) rfl)) (hw _ (List.mem_of_getElem? (i := 32) rfl)) rfl (g := (mkF m 189 #[.val (.long p0), .second, .val (.long p1), .second, .val (.long p2), .second, .val (.long p3), .second, .val (.int p4), .val (.int p5), .val (.int v32), .val (.long v36), .second, .val (.long ((((p4 >>> ((2 : Int32) &&& 31)) &&& (3 : Int32)) - (1 : Int32)).toInt64)), .second, .val (.long v41), .second, .val (.int ((p5 &&& (255 : Int32)).toUInt32.toUInt16.toUInt32.toInt32)), .val (.int (((p5 >>> ((8 : Int32) &&& 31)) &&& (255 : Int32)).toUInt32.toUInt16.toUInt32.toInt32)), .val (.int (((p5 >>> ((16 : Int32) &&& 31)) &&& (255 : Int32)).toUInt32.toUInt16.toUInt32.toInt32)), .val (.int (((p5 >>> ((24 : Int32) &&& 31)) &&& (255 : Int32)).toUInt32.toUInt16.toUInt32.toInt32)), .val (.ref b44), .val (.ref b44), .val (.ref b181), .unset, .unset] [])) rfl (own_hb hby at_189) (by decide) (by decide)
    obtain ⟨b197, g197⟩ : ∃ z, z = T191.heap.size := ⟨_, rfl⟩
    rw [← g197] at A197 D197 st197
    have gx197 : n0 ≤ b197 := Nat.le_trans z196 (Nat.le_of_eq g197.symm)
    have ne198 : b44 ≠ b197 := Nat.ne_of_lt (Nat.lt_of_lt_of_le f193.lt (Nat.le_of_eq g197.symm))
    have ne199 : b49 ≠ b197 := Nat.ne_of_lt (Nat.lt_of_lt_of_le f194.lt (Nat.le_of_eq g197.symm))
    have ne200 : b181 ≠ b197 := Nat.ne_of_lt (Nat.lt_of_lt_of_le p191_0.lt (Nat.le_of_eq g197.symm))
    refine own_Go.of (S' := (T197.setTop (mkF m 192 #[.val (.long p0), .second, .val (.long p1), .second, .val (.long p2), .second, .val (.long p3), .second, .val (.int p4), .val (.int p5), .val (.int v32), .val (.long v36), .second, .val (.long ((((p4 >>> ((2 : Int32) &&& 31)) &&& (3 : Int32)) - (1 : Int32)).toInt64)), .second, .val (.long v41), .second, .val (.int ((p5 &&& (255 : Int32)).toUInt32.toUInt16.toUInt32.toInt32)), .val (.int (((p5 >>> ((8 : Int32) &&& 31)) &&& (255 : Int32)).toUInt32.toUInt16.toUInt32.toInt32)), .val (.int (((p5 >>> ((16 : Int32) &&& 31)) &&& (255 : Int32)).toUInt32.toUInt16.toUInt32.toInt32)), .val (.int (((p5 >>> ((24 : Int32) &&& 31)) &&& (255 : Int32)).toUInt32.toUInt16.toUInt32.toInt32)), .val (.ref b44), .val (.ref b44), .val (.ref b181), .unset, .unset] [(.ref b197)]))) st197 ?_
    have f201 : Old Z n0 h197 := f192.ext E197
    have f202 : Exa Z h197 b44 "java/lang/String" := f193.ext E197
    have f203 : own_Ar Z h197 b49 .char 2 (own_I (own_set (own_set (fun _ => (0 : Int32)) 0 (nar .char ((p5 &&& (255 : Int32)).toUInt32.toUInt16.toUInt32.toInt32))) 1 (nar .char (((p5 >>> ((8 : Int32) &&& 31)) &&& (255 : Int32)).toUInt32.toUInt16.toUInt32.toInt32)))) := f194.ext E197
    have f204 : Exa Z h197 b181 "com/example/hearsay/hearsay/community/Stamp" := p191_0.ext E197
    have f205 : Fld Z h197 b181 "com/example/hearsay/hearsay/community/Stamp" "identity" "J" (.long p0) := p191_1.ext E197
    have f206 : Fld Z h197 b181 "com/example/hearsay/hearsay/community/Stamp" "version" "J" (.long p2) := p191_2.ext E197
    have z207 : n0 ≤ h197.size := Nat.le_trans z196 E197.1
    have f208 : Fld Z h197 b197 "com/example/hearsay/hearsay/community/Stamp" "name" "Ljava/lang/String;" .null := D197 (Or.inr (hw _ (List.mem_of_getElem? (i := 43) rfl))) (ty := (.object "java/lang/String")) (by decide)
    have f209 : Fld Z h197 b197 "com/example/hearsay/hearsay/community/Stamp" "identity" "J" (.long (0 : Int64)) := D197 (Or.inr (hw _ (List.mem_of_getElem? (i := 45) rfl))) (ty := .long) (by decide)
    have f210 : Fld Z h197 b197 "com/example/hearsay/hearsay/community/Stamp" "version" "J" (.long (0 : Int64)) := D197 (Or.inr (hw _ (List.mem_of_getElem? (i := 47) rfl))) (ty := .long) (by decide)
    refine own_Go.of (S' := (T197.setTop (mkF m 199 #[.val (.long p0), .second, .val (.long p1), .second, .val (.long p2), .second, .val (.long p3), .second, .val (.int p4), .val (.int p5), .val (.int v32), .val (.long v36), .second, .val (.long ((((p4 >>> ((2 : Int32) &&& 31)) &&& (3 : Int32)) - (1 : Int32)).toInt64)), .second, .val (.long v41), .second, .val (.int ((p5 &&& (255 : Int32)).toUInt32.toUInt16.toUInt32.toInt32)), .val (.int (((p5 >>> ((8 : Int32) &&& 31)) &&& (255 : Int32)).toUInt32.toUInt16.toUInt32.toInt32)), .val (.int (((p5 >>> ((16 : Int32) &&& 31)) &&& (255 : Int32)).toUInt32.toUInt16.toUInt32.toInt32)), .val (.int (((p5 >>> ((24 : Int32) &&& 31)) &&& (255 : Int32)).toUInt32.toUInt16.toUInt32.toInt32)), .val (.ref b44), .val (.ref b44), .val (.ref b181), .unset, .unset] [(.long v41), (.long v36), (.ref b44), (.ref b197), (.ref b197)]))) (fun t kt => ?_) ?_
    · show Steps p.tables e below (T197.setTop (mkF m 192 #[.val (.long p0), .second, .val (.long p1), .second, .val (.long p2), .second, .val (.long p3), .second, .val (.int p4), .val (.int p5), .val (.int v32), .val (.long v36), .second, .val (.long ((((p4 >>> ((2 : Int32) &&& 31)) &&& (3 : Int32)) - (1 : Int32)).toInt64)), .second, .val (.long v41), .second, .val (.int ((p5 &&& (255 : Int32)).toUInt32.toUInt16.toUInt32.toInt32)), .val (.int (((p5 >>> ((8 : Int32) &&& 31)) &&& (255 : Int32)).toUInt32.toUInt16.toUInt32.toInt32)), .val (.int (((p5 >>> ((16 : Int32) &&& 31)) &&& (255 : Int32)).toUInt32.toUInt16.toUInt32.toInt32)), .val (.int (((p5 >>> ((24 : Int32) &&& 31)) &&& (255 : Int32)).toUInt32.toUInt16.toUInt32.toInt32)), .val (.ref b44), .val (.ref b44), .val (.ref b181), .unset, .unset] [(.ref b197)])) _
      refine XS.dup X197.here hx rfl (own_hb hby at_192) rfl rfl ?_
      show Steps p.tables e below (T197.setTop (mkF m 193 #[.val (.long p0), .second, .val (.long p1), .second, .val (.long p2), .second, .val (.long p3), .second, .val (.int p4), .val (.int p5), .val (.int v32), .val (.long v36), .second, .val (.long ((((p4 >>> ((2 : Int32) &&& 31)) &&& (3 : Int32)) - (1 : Int32)).toInt64)), .second, .val (.long v41), .second, .val (.int ((p5 &&& (255 : Int32)).toUInt32.toUInt16.toUInt32.toInt32)), .val (.int (((p5 >>> ((8 : Int32) &&& 31)) &&& (255 : Int32)).toUInt32.toUInt16.toUInt32.toInt32)), .val (.int (((p5 >>> ((16 : Int32) &&& 31)) &&& (255 : Int32)).toUInt32.toUInt16.toUInt32.toInt32)), .val (.int (((p5 >>> ((24 : Int32) &&& 31)) &&& (255 : Int32)).toUInt32.toUInt16.toUInt32.toInt32)), .val (.ref b44), .val (.ref b44), .val (.ref b181), .unset, .unset] [(.ref b197), (.ref b197)])) _
      refine XS.aload X197.here hx rfl (own_hb hby at_193) rfl rfl ?_
      show Steps p.tables e below (T197.setTop (mkF m 195 #[.val (.long p0), .second, .val (.long p1), .second, .val (.long p2), .second, .val (.long p3), .second, .val (.int p4), .val (.int p5), .val (.int v32), .val (.long v36), .second, .val (.long ((((p4 >>> ((2 : Int32) &&& 31)) &&& (3 : Int32)) - (1 : Int32)).toInt64)), .second, .val (.long v41), .second, .val (.int ((p5 &&& (255 : Int32)).toUInt32.toUInt16.toUInt32.toInt32)), .val (.int (((p5 >>> ((8 : Int32) &&& 31)) &&& (255 : Int32)).toUInt32.toUInt16.toUInt32.toInt32)), .val (.int (((p5 >>> ((16 : Int32) &&& 31)) &&& (255 : Int32)).toUInt32.toUInt16.toUInt32.toInt32)), .val (.int (((p5 >>> ((24 : Int32) &&& 31)) &&& (255 : Int32)).toUInt32.toUInt16.toUInt32.toInt32)), .val (.ref b44), .val (.ref b44), .val (.ref b181), .unset, .unset] [(.ref b44), (.ref b197), (.ref b197)])) _
      refine XS.lload X197.here hx rfl (own_hb hby at_195) rfl ?_
      show Steps p.tables e below (T197.setTop (mkF m 197 #[.val (.long p0), .second, .val (.long p1), .second, .val (.long p2), .second, .val (.long p3), .second, .val (.int p4), .val (.int p5), .val (.int v32), .val (.long v36), .second, .val (.long ((((p4 >>> ((2 : Int32) &&& 31)) &&& (3 : Int32)) - (1 : Int32)).toInt64)), .second, .val (.long v41), .second, .val (.int ((p5 &&& (255 : Int32)).toUInt32.toUInt16.toUInt32.toInt32)), .val (.int (((p5 >>> ((8 : Int32) &&& 31)) &&& (255 : Int32)).toUInt32.toUInt16.toUInt32.toInt32)), .val (.int (((p5 >>> ((16 : Int32) &&& 31)) &&& (255 : Int32)).toUInt32.toUInt16.toUInt32.toInt32)), .val (.int (((p5 >>> ((24 : Int32) &&& 31)) &&& (255 : Int32)).toUInt32.toUInt16.toUInt32.toInt32)), .val (.ref b44), .val (.ref b44), .val (.ref b181), .unset, .unset] [(.long v36), (.ref b44), (.ref b197), (.ref b197)])) _
      refine XS.lload X197.here hx rfl (own_hb hby at_197) rfl ?_
      exact kt
    obtain ⟨_, _, ⟨T211, L211, k211, n211⟩, -, X211, ⟨Lc211, hQ211, l211, y211, z211⟩, st211⟩ := X197.specialBack hx (y := (⟨"com/example/hearsay/hearsay/community/Stamp", "<init>", "(Ljava/lang/String;JJ)V"⟩ : MethodName)) rfl hown (mvT hZ (hw _ (List.mem_of_getElem? (i := 33) rfl))) (mvT hZ (hw _ (List.mem_of_getElem? (i := 34) rfl))) (mvT hZ (hw _ (List.mem_of_getElem? (i := 35) rfl))) (by decide) (backOf (W := 1) (rm7 l Z a0 hw [] b197 b44 v36 v41 .null (.long (0 : Int64)) (.long (0 : Int64)) h197 n0 z207 A197 f208 f209 f210 gx197) hZ (hw _ (List.mem_of_getElem? (i := 35) rfl)) (hw _ (List.mem_of_getElem? (i := 32) rfl)) (by decide) (by decide)) (g := (mkF m 199 #[.val (.long p0), .second, .val (.long p1), .second, .val (.long p2), .second, .val (.long p3), .second, .val (.int p4), .val (.int p5), .val (.int v32), .val (.long v36), .second, .val (.long ((((p4 >>> ((2 : Int32) &&& 31)) &&& (3 : Int32)) - (1 : Int32)).toInt64)), .second, .val (.long v41), .second, .val (.int ((p5 &&& (255 : Int32)).toUInt32.toUInt16.toUInt32.toInt32)), .val (.int (((p5 >>> ((8 : Int32) &&& 31)) &&& (255 : Int32)).toUInt32.toUInt16.toUInt32.toInt32)), .val (.int (((p5 >>> ((16 : Int32) &&& 31)) &&& (255 : Int32)).toUInt32.toUInt16.toUInt32.toInt32)), .val (.int (((p5 >>> ((24 : Int32) &&& 31)) &&& (255 : Int32)).toUInt32.toUInt16.toUInt32.toInt32)), .val (.ref b44), .val (.ref b44), .val (.ref b181), .unset, .unset] [(.long v41), (.long v36), (.ref b44), (.ref b197), (.ref b197)])) rfl (by rw [hml]; rfl) (Steps.refl _) (a := b197) (argsL := [(.ref b44), (.long v36), (.long v41)]) (rest := [(.ref b197)]) (lenOf pd_2 rfl) rfl (by show 2 * 0 + _ ≤ _; exact Nat.le_of_eq rfl) (own_hb hby at_199) (fun _ _ => ⟨rfl, e197, (by decide : 5 + 0 ≤ _), (by decide : 14 + 0 ≤ _)⟩)
    dsimp only [Pt.U, Pt.locs, Pt.cells, Pt.slots] at X211 l211 y211 z211 st211 hQ211
    subst l211 y211 z211
    obtain ⟨rfl, N211q, K211, p211_0, p211_1, p211_2⟩ := hQ211
    have N211 := Fr.app N191 N211q
    refine own_Go.of (S' := (T211.setTop (mkF m 202 #[.val (.long p0), .second, .val (.long p1), .second, .val (.long p2), .second, .val (.long p3), .second, .val (.int p4), .val (.int p5), .val (.int v32), .val (.long v36), .second, .val (.long ((((p4 >>> ((2 : Int32) &&& 31)) &&& (3 : Int32)) - (1 : Int32)).toInt64)), .second, .val (.long v41), .second, .val (.int ((p5 &&& (255 : Int32)).toUInt32.toUInt16.toUInt32.toInt32)), .val (.int (((p5 >>> ((8 : Int32) &&& 31)) &&& (255 : Int32)).toUInt32.toUInt16.toUInt32.toInt32)), .val (.int (((p5 >>> ((16 : Int32) &&& 31)) &&& (255 : Int32)).toUInt32.toUInt16.toUInt32.toInt32)), .val (.int (((p5 >>> ((24 : Int32) &&& 31)) &&& (255 : Int32)).toUInt32.toUInt16.toUInt32.toInt32)), .val (.ref b44), .val (.ref b44), .val (.ref b181), .unset, .unset] [(.ref b197)]))) (fun t kt => st211.trans kt) ?_
    have f212 : Old Z n0 T211.heap := f201.keep K211 (allS gx197 all0)
    have f213 : Exa Z T211.heap b44 "java/lang/String" := f202.keep K211
    have f214 : own_Ar Z T211.heap b49 .char 2 (own_I (own_set (own_set (fun _ => (0 : Int32)) 0 (nar .char ((p5 &&& (255 : Int32)).toUInt32.toUInt16.toUInt32.toInt32))) 1 (nar .char (((p5 >>> ((8 : Int32) &&& 31)) &&& (255 : Int32)).toUInt32.toUInt16.toUInt32.toInt32)))) := f203.keep K211 (ninS ne199 nin0)
    have f215 : Exa Z T211.heap b181 "com/example/hearsay/hearsay/community/Stamp" := f204.keep K211
    have f216 : Fld Z T211.heap b181 "com/example/hearsay/hearsay/community/Stamp" "identity" "J" (.long p0) := f205.keep K211 (ninS ne200 nin0)
    have f217 : Fld Z T211.heap b181 "com/example/hearsay/hearsay/community/Stamp" "version" "J" (.long p2) := f206.keep K211 (ninS ne200 nin0)
    have f218 : Exa Z T211.heap b197 "com/example/hearsay/hearsay/community/Stamp" := A197.keep K211
    have z219 : n0 ≤ T211.heap.size := Nat.le_trans z207 K211.1
    refine own_Go.of (S' := (T211.setTop (mkF m 208 #[.val (.long p0), .second, .val (.long p1), .second, .val (.long p2), .second, .val (.long p3), .second, .val (.int p4), .val (.int p5), .val (.int v32), .val (.long v36), .second, .val (.long ((((p4 >>> ((2 : Int32) &&& 31)) &&& (3 : Int32)) - (1 : Int32)).toInt64)), .second, .val (.long v41), .second, .val (.int ((p5 &&& (255 : Int32)).toUInt32.toUInt16.toUInt32.toInt32)), .val (.int (((p5 >>> ((8 : Int32) &&& 31)) &&& (255 : Int32)).toUInt32.toUInt16.toUInt32.toInt32)), .val (.int (((p5 >>> ((16 : Int32) &&& 31)) &&& (255 : Int32)).toUInt32.toUInt16.toUInt32.toInt32)), .val (.int (((p5 >>> ((24 : Int32) &&& 31)) &&& (255 : Int32)).toUInt32.toUInt16.toUInt32.toInt32)), .val (.ref b44), .val (.ref b44), .val (.ref b181), .val (.ref b197), .unset] [(.int (lcmpW v36 p0))]))) (fun t kt => ?_) ?_
    · show Steps p.tables e below (T211.setTop (mkF m 202 #[.val (.long p0), .second, .val (.long p1), .second, .val (.long p2), .second, .val (.long p3), .second, .val (.int p4), .val (.int p5), .val (.int v32), .val (.long v36), .second, .val (.long ((((p4 >>> ((2 : Int32) &&& 31)) &&& (3 : Int32)) - (1 : Int32)).toInt64)), .second, .val (.long v41), .second, .val (.int ((p5 &&& (255 : Int32)).toUInt32.toUInt16.toUInt32.toInt32)), .val (.int (((p5 >>> ((8 : Int32) &&& 31)) &&& (255 : Int32)).toUInt32.toUInt16.toUInt32.toInt32)), .val (.int (((p5 >>> ((16 : Int32) &&& 31)) &&& (255 : Int32)).toUInt32.toUInt16.toUInt32.toInt32)), .val (.int (((p5 >>> ((24 : Int32) &&& 31)) &&& (255 : Int32)).toUInt32.toUInt16.toUInt32.toInt32)), .val (.ref b44), .val (.ref b44), .val (.ref b181), .unset, .unset] [(.ref b197)])) _
      refine XS.astore X211.here hx rfl (own_hb hby at_202) rfl rfl (l' := #[.val (.long p0), .second, .val (.long p1), .second, .val (.long p2), .second, .val (.long p3), .second, .val (.int p4), .val (.int p5), .val (.int v32), .val (.long v36), .second, .val (.long ((((p4 >>> ((2 : Int32) &&& 31)) &&& (3 : Int32)) - (1 : Int32)).toInt64)), .second, .val (.long v41), .second, .val (.int ((p5 &&& (255 : Int32)).toUInt32.toUInt16.toUInt32.toInt32)), .val (.int (((p5 >>> ((8 : Int32) &&& 31)) &&& (255 : Int32)).toUInt32.toUInt16.toUInt32.toInt32)), .val (.int (((p5 >>> ((16 : Int32) &&& 31)) &&& (255 : Int32)).toUInt32.toUInt16.toUInt32.toInt32)), .val (.int (((p5 >>> ((24 : Int32) &&& 31)) &&& (255 : Int32)).toUInt32.toUInt16.toUInt32.toInt32)), .val (.ref b44), .val (.ref b44), .val (.ref b181), .val (.ref b197), .unset]) rfl ?_
      show Steps p.tables e below (T211.setTop (mkF m 204 #[.val (.long p0), .second, .val (.long p1), .second, .val (.long p2), .second, .val (.long p3), .second, .val (.int p4), .val (.int p5), .val (.int v32), .val (.long v36), .second, .val (.long ((((p4 >>> ((2 : Int32) &&& 31)) &&& (3 : Int32)) - (1 : Int32)).toInt64)), .second, .val (.long v41), .second, .val (.int ((p5 &&& (255 : Int32)).toUInt32.toUInt16.toUInt32.toInt32)), .val (.int (((p5 >>> ((8 : Int32) &&& 31)) &&& (255 : Int32)).toUInt32.toUInt16.toUInt32.toInt32)), .val (.int (((p5 >>> ((16 : Int32) &&& 31)) &&& (255 : Int32)).toUInt32.toUInt16.toUInt32.toInt32)), .val (.int (((p5 >>> ((24 : Int32) &&& 31)) &&& (255 : Int32)).toUInt32.toUInt16.toUInt32.toInt32)), .val (.ref b44), .val (.ref b44), .val (.ref b181), .val (.ref b197), .unset] [])) _
      refine XS.lload X211.here hx rfl (own_hb hby at_204) rfl ?_
      show Steps p.tables e below (T211.setTop (mkF m 206 #[.val (.long p0), .second, .val (.long p1), .second, .val (.long p2), .second, .val (.long p3), .second, .val (.int p4), .val (.int p5), .val (.int v32), .val (.long v36), .second, .val (.long ((((p4 >>> ((2 : Int32) &&& 31)) &&& (3 : Int32)) - (1 : Int32)).toInt64)), .second, .val (.long v41), .second, .val (.int ((p5 &&& (255 : Int32)).toUInt32.toUInt16.toUInt32.toInt32)), .val (.int (((p5 >>> ((8 : Int32) &&& 31)) &&& (255 : Int32)).toUInt32.toUInt16.toUInt32.toInt32)), .val (.int (((p5 >>> ((16 : Int32) &&& 31)) &&& (255 : Int32)).toUInt32.toUInt16.toUInt32.toInt32)), .val (.int (((p5 >>> ((24 : Int32) &&& 31)) &&& (255 : Int32)).toUInt32.toUInt16.toUInt32.toInt32)), .val (.ref b44), .val (.ref b44), .val (.ref b181), .val (.ref b197), .unset] [(.long v36)])) _
      refine XS.lloadN X211.here hx rfl (own_hb hby at_206) rfl ?_
      show Steps p.tables e below (T211.setTop (mkF m 207 #[.val (.long p0), .second, .val (.long p1), .second, .val (.long p2), .second, .val (.long p3), .second, .val (.int p4), .val (.int p5), .val (.int v32), .val (.long v36), .second, .val (.long ((((p4 >>> ((2 : Int32) &&& 31)) &&& (3 : Int32)) - (1 : Int32)).toInt64)), .second, .val (.long v41), .second, .val (.int ((p5 &&& (255 : Int32)).toUInt32.toUInt16.toUInt32.toInt32)), .val (.int (((p5 >>> ((8 : Int32) &&& 31)) &&& (255 : Int32)).toUInt32.toUInt16.toUInt32.toInt32)), .val (.int (((p5 >>> ((16 : Int32) &&& 31)) &&& (255 : Int32)).toUInt32.toUInt16.toUInt32.toInt32)), .val (.int (((p5 >>> ((24 : Int32) &&& 31)) &&& (255 : Int32)).toUInt32.toUInt16.toUInt32.toInt32)), .val (.ref b44), .val (.ref b44), .val (.ref b181), .val (.ref b197), .unset] [(.long p0), (.long v36)])) _
      refine XS.lcmp X211.here hx rfl (own_hb hby at_207) rfl ?_
      exact kt
    obtain ⟨v223, hd225, st224⟩ : ∃ v223 : Int32, ((v223 = (1 : Int32) ∧ v36 = p0 ∧ p2 < v41) ∨ (v223 = (0 : Int32) ∧ v36 = p0 ∧ ¬ (p2 < v41)) ∨ (v223 = (1 : Int32) ∧ ¬ (v36 = p0) ∧ (0 : Int64) < v41) ∨ (v223 = (0 : Int32) ∧ ¬ (v36 = p0) ∧ ¬ ((0 : Int64) < v41))) ∧ ∀ t, Steps p.tables e below (T211.setTop (mkF m 243 #[.val (.long p0), .second, .val (.long p1), .second, .val (.long p2), .second, .val (.long p3), .second, .val (.int p4), .val (.int p5), .val (.int v32), .val (.long v36), .second, .val (.long ((((p4 >>> ((2 : Int32) &&& 31)) &&& (3 : Int32)) - (1 : Int32)).toInt64)), .second, .val (.long v41), .second, .val (.int ((p5 &&& (255 : Int32)).toUInt32.toUInt16.toUInt32.toInt32)), .val (.int (((p5 >>> ((8 : Int32) &&& 31)) &&& (255 : Int32)).toUInt32.toUInt16.toUInt32.toInt32)), .val (.int (((p5 >>> ((16 : Int32) &&& 31)) &&& (255 : Int32)).toUInt32.toUInt16.toUInt32.toInt32)), .val (.int (((p5 >>> ((24 : Int32) &&& 31)) &&& (255 : Int32)).toUInt32.toUInt16.toUInt32.toInt32)), .val (.ref b44), .val (.ref b44), .val (.ref b181), .val (.ref b197), .val (.int v223)] [])) t → Steps p.tables e below (T211.setTop (mkF m 208 #[.val (.long p0), .second, .val (.long p1), .second, .val (.long p2), .second, .val (.long p3), .second, .val (.int p4), .val (.int p5), .val (.int v32), .val (.long v36), .second, .val (.long ((((p4 >>> ((2 : Int32) &&& 31)) &&& (3 : Int32)) - (1 : Int32)).toInt64)), .second, .val (.long v41), .second, .val (.int ((p5 &&& (255 : Int32)).toUInt32.toUInt16.toUInt32.toInt32)), .val (.int (((p5 >>> ((8 : Int32) &&& 31)) &&& (255 : Int32)).toUInt32.toUInt16.toUInt32.toInt32)), .val (.int (((p5 >>> ((16 : Int32) &&& 31)) &&& (255 : Int32)).toUInt32.toUInt16.toUInt32.toInt32)), .val (.int (((p5 >>> ((24 : Int32) &&& 31)) &&& (255 : Int32)).toUInt32.toUInt16.toUInt32.toInt32)), .val (.ref b44), .val (.ref b44), .val (.ref b181), .val (.ref b197), .unset] [(.int (lcmpW v36 p0))])) t := by
      by_cases hc208_220 : v36 = p0
      · skip
        by_cases hc216_221 : p2 < v41
        · skip
          refine ⟨(1 : Int32), (Or.inl (⟨rfl, hc208_220, hc216_221⟩)), fun t kt => ?_⟩
          show Steps p.tables e below (T211.setTop (mkF m 208 #[.val (.long p0), .second, .val (.long p1), .second, .val (.long p2), .second, .val (.long p3), .second, .val (.int p4), .val (.int p5), .val (.int v32), .val (.long v36), .second, .val (.long ((((p4 >>> ((2 : Int32) &&& 31)) &&& (3 : Int32)) - (1 : Int32)).toInt64)), .second, .val (.long v41), .second, .val (.int ((p5 &&& (255 : Int32)).toUInt32.toUInt16.toUInt32.toInt32)), .val (.int (((p5 >>> ((8 : Int32) &&& 31)) &&& (255 : Int32)).toUInt32.toUInt16.toUInt32.toInt32)), .val (.int (((p5 >>> ((16 : Int32) &&& 31)) &&& (255 : Int32)).toUInt32.toUInt16.toUInt32.toInt32)), .val (.int (((p5 >>> ((24 : Int32) &&& 31)) &&& (255 : Int32)).toUInt32.toUInt16.toUInt32.toInt32)), .val (.ref b44), .val (.ref b44), .val (.ref b181), .val (.ref b197), .unset] [(.int (lcmpW v36 p0))])) _
          refine XS.ifNo X211.here hx rfl (own_hb hby at_208) rfl ((if0 _ _).trans (teq ((lw_eq _ _).mpr hc208_220)).2) ?_
          show Steps p.tables e below (T211.setTop (mkF m 211 #[.val (.long p0), .second, .val (.long p1), .second, .val (.long p2), .second, .val (.long p3), .second, .val (.int p4), .val (.int p5), .val (.int v32), .val (.long v36), .second, .val (.long ((((p4 >>> ((2 : Int32) &&& 31)) &&& (3 : Int32)) - (1 : Int32)).toInt64)), .second, .val (.long v41), .second, .val (.int ((p5 &&& (255 : Int32)).toUInt32.toUInt16.toUInt32.toInt32)), .val (.int (((p5 >>> ((8 : Int32) &&& 31)) &&& (255 : Int32)).toUInt32.toUInt16.toUInt32.toInt32)), .val (.int (((p5 >>> ((16 : Int32) &&& 31)) &&& (255 : Int32)).toUInt32.toUInt16.toUInt32.toInt32)), .val (.int (((p5 >>> ((24 : Int32) &&& 31)) &&& (255 : Int32)).toUInt32.toUInt16.toUInt32.toInt32)), .val (.ref b44), .val (.ref b44), .val (.ref b181), .val (.ref b197), .unset] [])) _
          refine XS.lload X211.here hx rfl (own_hb hby at_211) rfl ?_
          show Steps p.tables e below (T211.setTop (mkF m 213 #[.val (.long p0), .second, .val (.long p1), .second, .val (.long p2), .second, .val (.long p3), .second, .val (.int p4), .val (.int p5), .val (.int v32), .val (.long v36), .second, .val (.long ((((p4 >>> ((2 : Int32) &&& 31)) &&& (3 : Int32)) - (1 : Int32)).toInt64)), .second, .val (.long v41), .second, .val (.int ((p5 &&& (255 : Int32)).toUInt32.toUInt16.toUInt32.toInt32)), .val (.int (((p5 >>> ((8 : Int32) &&& 31)) &&& (255 : Int32)).toUInt32.toUInt16.toUInt32.toInt32)), .val (.int (((p5 >>> ((16 : Int32) &&& 31)) &&& (255 : Int32)).toUInt32.toUInt16.toUInt32.toInt32)), .val (.int (((p5 >>> ((24 : Int32) &&& 31)) &&& (255 : Int32)).toUInt32.toUInt16.toUInt32.toInt32)), .val (.ref b44), .val (.ref b44), .val (.ref b181), .val (.ref b197), .unset] [(.long v41)])) _
          refine XS.lload X211.here hx rfl (own_hb hby at_213) rfl ?_
          show Steps p.tables e below (T211.setTop (mkF m 215 #[.val (.long p0), .second, .val (.long p1), .second, .val (.long p2), .second, .val (.long p3), .second, .val (.int p4), .val (.int p5), .val (.int v32), .val (.long v36), .second, .val (.long ((((p4 >>> ((2 : Int32) &&& 31)) &&& (3 : Int32)) - (1 : Int32)).toInt64)), .second, .val (.long v41), .second, .val (.int ((p5 &&& (255 : Int32)).toUInt32.toUInt16.toUInt32.toInt32)), .val (.int (((p5 >>> ((8 : Int32) &&& 31)) &&& (255 : Int32)).toUInt32.toUInt16.toUInt32.toInt32)), .val (.int (((p5 >>> ((16 : Int32) &&& 31)) &&& (255 : Int32)).toUInt32.toUInt16.toUInt32.toInt32)), .val (.int (((p5 >>> ((24 : Int32) &&& 31)) &&& (255 : Int32)).toUInt32.toUInt16.toUInt32.toInt32)), .val (.ref b44), .val (.ref b44), .val (.ref b181), .val (.ref b197), .unset] [(.long p2), (.long v41)])) _
          refine XS.lcmp X211.here hx rfl (own_hb hby at_215) rfl ?_
          show Steps p.tables e below (T211.setTop (mkF m 216 #[.val (.long p0), .second, .val (.long p1), .second, .val (.long p2), .second, .val (.long p3), .second, .val (.int p4), .val (.int p5), .val (.int v32), .val (.long v36), .second, .val (.long ((((p4 >>> ((2 : Int32) &&& 31)) &&& (3 : Int32)) - (1 : Int32)).toInt64)), .second, .val (.long v41), .second, .val (.int ((p5 &&& (255 : Int32)).toUInt32.toUInt16.toUInt32.toInt32)), .val (.int (((p5 >>> ((8 : Int32) &&& 31)) &&& (255 : Int32)).toUInt32.toUInt16.toUInt32.toInt32)), .val (.int (((p5 >>> ((16 : Int32) &&& 31)) &&& (255 : Int32)).toUInt32.toUInt16.toUInt32.toInt32)), .val (.int (((p5 >>> ((24 : Int32) &&& 31)) &&& (255 : Int32)).toUInt32.toUInt16.toUInt32.toInt32)), .val (.ref b44), .val (.ref b44), .val (.ref b181), .val (.ref b197), .unset] [(.int (lcmpW v41 p2))])) _
          refine XS.ifNo X211.here hx rfl (own_hb hby at_216) rfl ((if0 _ _).trans (tlt ((lw_gt _ _).mpr hc216_221)).2.2.2) ?_
          show Steps p.tables e below (T211.setTop (mkF m 219 #[.val (.long p0), .second, .val (.long p1), .second, .val (.long p2), .second, .val (.long p3), .second, .val (.int p4), .val (.int p5), .val (.int v32), .val (.long v36), .second, .val (.long ((((p4 >>> ((2 : Int32) &&& 31)) &&& (3 : Int32)) - (1 : Int32)).toInt64)), .second, .val (.long v41), .second, .val (.int ((p5 &&& (255 : Int32)).toUInt32.toUInt16.toUInt32.toInt32)), .val (.int (((p5 >>> ((8 : Int32) &&& 31)) &&& (255 : Int32)).toUInt32.toUInt16.toUInt32.toInt32)), .val (.int (((p5 >>> ((16 : Int32) &&& 31)) &&& (255 : Int32)).toUInt32.toUInt16.toUInt32.toInt32)), .val (.int (((p5 >>> ((24 : Int32) &&& 31)) &&& (255 : Int32)).toUInt32.toUInt16.toUInt32.toInt32)), .val (.ref b44), .val (.ref b44), .val (.ref b181), .val (.ref b197), .unset] [])) _
          refine XS.iconst X211.here hx rfl (own_hb hby at_219) ?_
          show Steps p.tables e below (T211.setTop (mkF m 220 #[.val (.long p0), .second, .val (.long p1), .second, .val (.long p2), .second, .val (.long p3), .second, .val (.int p4), .val (.int p5), .val (.int v32), .val (.long v36), .second, .val (.long ((((p4 >>> ((2 : Int32) &&& 31)) &&& (3 : Int32)) - (1 : Int32)).toInt64)), .second, .val (.long v41), .second, .val (.int ((p5 &&& (255 : Int32)).toUInt32.toUInt16.toUInt32.toInt32)), .val (.int (((p5 >>> ((8 : Int32) &&& 31)) &&& (255 : Int32)).toUInt32.toUInt16.toUInt32.toInt32)), .val (.int (((p5 >>> ((16 : Int32) &&& 31)) &&& (255 : Int32)).toUInt32.toUInt16.toUInt32.toInt32)), .val (.int (((p5 >>> ((24 : Int32) &&& 31)) &&& (255 : Int32)).toUInt32.toUInt16.toUInt32.toInt32)), .val (.ref b44), .val (.ref b44), .val (.ref b181), .val (.ref b197), .unset] [(.int (1 : Int32))])) _
          refine XS.goto X211.here hx rfl (pc0 := 220) (pc' := 224) rfl (own_hb hby at_220) (by decide) (by decide) ?_
          show Steps p.tables e below (T211.setTop (mkF m 224 #[.val (.long p0), .second, .val (.long p1), .second, .val (.long p2), .second, .val (.long p3), .second, .val (.int p4), .val (.int p5), .val (.int v32), .val (.long v36), .second, .val (.long ((((p4 >>> ((2 : Int32) &&& 31)) &&& (3 : Int32)) - (1 : Int32)).toInt64)), .second, .val (.long v41), .second, .val (.int ((p5 &&& (255 : Int32)).toUInt32.toUInt16.toUInt32.toInt32)), .val (.int (((p5 >>> ((8 : Int32) &&& 31)) &&& (255 : Int32)).toUInt32.toUInt16.toUInt32.toInt32)), .val (.int (((p5 >>> ((16 : Int32) &&& 31)) &&& (255 : Int32)).toUInt32.toUInt16.toUInt32.toInt32)), .val (.int (((p5 >>> ((24 : Int32) &&& 31)) &&& (255 : Int32)).toUInt32.toUInt16.toUInt32.toInt32)), .val (.ref b44), .val (.ref b44), .val (.ref b181), .val (.ref b197), .unset] [(.int (1 : Int32))])) _
          refine XS.istore X211.here hx rfl (own_hb hby at_224) rfl (l' := #[.val (.long p0), .second, .val (.long p1), .second, .val (.long p2), .second, .val (.long p3), .second, .val (.int p4), .val (.int p5), .val (.int v32), .val (.long v36), .second, .val (.long ((((p4 >>> ((2 : Int32) &&& 31)) &&& (3 : Int32)) - (1 : Int32)).toInt64)), .second, .val (.long v41), .second, .val (.int ((p5 &&& (255 : Int32)).toUInt32.toUInt16.toUInt32.toInt32)), .val (.int (((p5 >>> ((8 : Int32) &&& 31)) &&& (255 : Int32)).toUInt32.toUInt16.toUInt32.toInt32)), .val (.int (((p5 >>> ((16 : Int32) &&& 31)) &&& (255 : Int32)).toUInt32.toUInt16.toUInt32.toInt32)), .val (.int (((p5 >>> ((24 : Int32) &&& 31)) &&& (255 : Int32)).toUInt32.toUInt16.toUInt32.toInt32)), .val (.ref b44), .val (.ref b44), .val (.ref b181), .val (.ref b197), .val (.int (1 : Int32))]) rfl ?_
          show Steps p.tables e below (T211.setTop (mkF m 226 #[.val (.long p0), .second, .val (.long p1), .second, .val (.long p2), .second, .val (.long p3), .second, .val (.int p4), .val (.int p5), .val (.int v32), .val (.long v36), .second, .val (.long ((((p4 >>> ((2 : Int32) &&& 31)) &&& (3 : Int32)) - (1 : Int32)).toInt64)), .second, .val (.long v41), .second, .val (.int ((p5 &&& (255 : Int32)).toUInt32.toUInt16.toUInt32.toInt32)), .val (.int (((p5 >>> ((8 : Int32) &&& 31)) &&& (255 : Int32)).toUInt32.toUInt16.toUInt32.toInt32)), .val (.int (((p5 >>> ((16 : Int32) &&& 31)) &&& (255 : Int32)).toUInt32.toUInt16.toUInt32.toInt32)), .val (.int (((p5 >>> ((24 : Int32) &&& 31)) &&& (255 : Int32)).toUInt32.toUInt16.toUInt32.toInt32)), .val (.ref b44), .val (.ref b44), .val (.ref b181), .val (.ref b197), .val (.int (1 : Int32))] [])) _
          refine XS.goto X211.here hx rfl (pc0 := 226) (pc' := 243) rfl (own_hb hby at_226) (by decide) (by decide) ?_
          exact kt
        · skip
          refine ⟨(0 : Int32), (Or.inr (Or.inl (⟨rfl, hc208_220, hc216_221⟩))), fun t kt => ?_⟩
          show Steps p.tables e below (T211.setTop (mkF m 208 #[.val (.long p0), .second, .val (.long p1), .second, .val (.long p2), .second, .val (.long p3), .second, .val (.int p4), .val (.int p5), .val (.int v32), .val (.long v36), .second, .val (.long ((((p4 >>> ((2 : Int32) &&& 31)) &&& (3 : Int32)) - (1 : Int32)).toInt64)), .second, .val (.long v41), .second, .val (.int ((p5 &&& (255 : Int32)).toUInt32.toUInt16.toUInt32.toInt32)), .val (.int (((p5 >>> ((8 : Int32) &&& 31)) &&& (255 : Int32)).toUInt32.toUInt16.toUInt32.toInt32)), .val (.int (((p5 >>> ((16 : Int32) &&& 31)) &&& (255 : Int32)).toUInt32.toUInt16.toUInt32.toInt32)), .val (.int (((p5 >>> ((24 : Int32) &&& 31)) &&& (255 : Int32)).toUInt32.toUInt16.toUInt32.toInt32)), .val (.ref b44), .val (.ref b44), .val (.ref b181), .val (.ref b197), .unset] [(.int (lcmpW v36 p0))])) _
          refine XS.ifNo X211.here hx rfl (own_hb hby at_208) rfl ((if0 _ _).trans (teq ((lw_eq _ _).mpr hc208_220)).2) ?_
          show Steps p.tables e below (T211.setTop (mkF m 211 #[.val (.long p0), .second, .val (.long p1), .second, .val (.long p2), .second, .val (.long p3), .second, .val (.int p4), .val (.int p5), .val (.int v32), .val (.long v36), .second, .val (.long ((((p4 >>> ((2 : Int32) &&& 31)) &&& (3 : Int32)) - (1 : Int32)).toInt64)), .second, .val (.long v41), .second, .val (.int ((p5 &&& (255 : Int32)).toUInt32.toUInt16.toUInt32.toInt32)), .val (.int (((p5 >>> ((8 : Int32) &&& 31)) &&& (255 : Int32)).toUInt32.toUInt16.toUInt32.toInt32)), .val (.int (((p5 >>> ((16 : Int32) &&& 31)) &&& (255 : Int32)).toUInt32.toUInt16.toUInt32.toInt32)), .val (.int (((p5 >>> ((24 : Int32) &&& 31)) &&& (255 : Int32)).toUInt32.toUInt16.toUInt32.toInt32)), .val (.ref b44), .val (.ref b44), .val (.ref b181), .val (.ref b197), .unset] [])) _
          refine XS.lload X211.here hx rfl (own_hb hby at_211) rfl ?_
          show Steps p.tables e below (T211.setTop (mkF m 213 #[.val (.long p0), .second, .val (.long p1), .second, .val (.long p2), .second, .val (.long p3), .second, .val (.int p4), .val (.int p5), .val (.int v32), .val (.long v36), .second, .val (.long ((((p4 >>> ((2 : Int32) &&& 31)) &&& (3 : Int32)) - (1 : Int32)).toInt64)), .second, .val (.long v41), .second, .val (.int ((p5 &&& (255 : Int32)).toUInt32.toUInt16.toUInt32.toInt32)), .val (.int (((p5 >>> ((8 : Int32) &&& 31)) &&& (255 : Int32)).toUInt32.toUInt16.toUInt32.toInt32)), .val (.int (((p5 >>> ((16 : Int32) &&& 31)) &&& (255 : Int32)).toUInt32.toUInt16.toUInt32.toInt32)), .val (.int (((p5 >>> ((24 : Int32) &&& 31)) &&& (255 : Int32)).toUInt32.toUInt16.toUInt32.toInt32)), .val (.ref b44), .val (.ref b44), .val (.ref b181), .val (.ref b197), .unset] [(.long v41)])) _
          refine XS.lload X211.here hx rfl (own_hb hby at_213) rfl ?_
          show Steps p.tables e below (T211.setTop (mkF m 215 #[.val (.long p0), .second, .val (.long p1), .second, .val (.long p2), .second, .val (.long p3), .second, .val (.int p4), .val (.int p5), .val (.int v32), .val (.long v36), .second, .val (.long ((((p4 >>> ((2 : Int32) &&& 31)) &&& (3 : Int32)) - (1 : Int32)).toInt64)), .second, .val (.long v41), .second, .val (.int ((p5 &&& (255 : Int32)).toUInt32.toUInt16.toUInt32.toInt32)), .val (.int (((p5 >>> ((8 : Int32) &&& 31)) &&& (255 : Int32)).toUInt32.toUInt16.toUInt32.toInt32)), .val (.int (((p5 >>> ((16 : Int32) &&& 31)) &&& (255 : Int32)).toUInt32.toUInt16.toUInt32.toInt32)), .val (.int (((p5 >>> ((24 : Int32) &&& 31)) &&& (255 : Int32)).toUInt32.toUInt16.toUInt32.toInt32)), .val (.ref b44), .val (.ref b44), .val (.ref b181), .val (.ref b197), .unset] [(.long p2), (.long v41)])) _
          refine XS.lcmp X211.here hx rfl (own_hb hby at_215) rfl ?_
          show Steps p.tables e below (T211.setTop (mkF m 216 #[.val (.long p0), .second, .val (.long p1), .second, .val (.long p2), .second, .val (.long p3), .second, .val (.int p4), .val (.int p5), .val (.int v32), .val (.long v36), .second, .val (.long ((((p4 >>> ((2 : Int32) &&& 31)) &&& (3 : Int32)) - (1 : Int32)).toInt64)), .second, .val (.long v41), .second, .val (.int ((p5 &&& (255 : Int32)).toUInt32.toUInt16.toUInt32.toInt32)), .val (.int (((p5 >>> ((8 : Int32) &&& 31)) &&& (255 : Int32)).toUInt32.toUInt16.toUInt32.toInt32)), .val (.int (((p5 >>> ((16 : Int32) &&& 31)) &&& (255 : Int32)).toUInt32.toUInt16.toUInt32.toInt32)), .val (.int (((p5 >>> ((24 : Int32) &&& 31)) &&& (255 : Int32)).toUInt32.toUInt16.toUInt32.toInt32)), .val (.ref b44), .val (.ref b44), .val (.ref b181), .val (.ref b197), .unset] [(.int (lcmpW v41 p2))])) _
          refine XS.ifYes X211.here hx rfl (pc0 := 216) (pc' := 223) rfl (own_hb hby at_216) rfl ((if0 _ _).trans (flt (fun q => hc216_221 ((lw_gt _ _).mp q))).2.2.2) (by decide) (by decide) ?_
          show Steps p.tables e below (T211.setTop (mkF m 223 #[.val (.long p0), .second, .val (.long p1), .second, .val (.long p2), .second, .val (.long p3), .second, .val (.int p4), .val (.int p5), .val (.int v32), .val (.long v36), .second, .val (.long ((((p4 >>> ((2 : Int32) &&& 31)) &&& (3 : Int32)) - (1 : Int32)).toInt64)), .second, .val (.long v41), .second, .val (.int ((p5 &&& (255 : Int32)).toUInt32.toUInt16.toUInt32.toInt32)), .val (.int (((p5 >>> ((8 : Int32) &&& 31)) &&& (255 : Int32)).toUInt32.toUInt16.toUInt32.toInt32)), .val (.int (((p5 >>> ((16 : Int32) &&& 31)) &&& (255 : Int32)).toUInt32.toUInt16.toUInt32.toInt32)), .val (.int (((p5 >>> ((24 : Int32) &&& 31)) &&& (255 : Int32)).toUInt32.toUInt16.toUInt32.toInt32)), .val (.ref b44), .val (.ref b44), .val (.ref b181), .val (.ref b197), .unset] [])) _
          refine XS.iconst X211.here hx rfl (own_hb hby at_223) ?_
          show Steps p.tables e below (T211.setTop (mkF m 224 #[.val (.long p0), .second, .val (.long p1), .second, .val (.long p2), .second, .val (.long p3), .second, .val (.int p4), .val (.int p5), .val (.int v32), .val (.long v36), .second, .val (.long ((((p4 >>> ((2 : Int32) &&& 31)) &&& (3 : Int32)) - (1 : Int32)).toInt64)), .second, .val (.long v41), .second, .val (.int ((p5 &&& (255 : Int32)).toUInt32.toUInt16.toUInt32.toInt32)), .val (.int (((p5 >>> ((8 : Int32) &&& 31)) &&& (255 : Int32)).toUInt32.toUInt16.toUInt32.toInt32)), .val (.int (((p5 >>> ((16 : Int32) &&& 31)) &&& (255 : Int32)).toUInt32.toUInt16.toUInt32.toInt32)), .val (.int (((p5 >>> ((24 : Int32) &&& 31)) &&& (255 : Int32)).toUInt32.toUInt16.toUInt32.toInt32)), .val (.ref b44), .val (.ref b44), .val (.ref b181), .val (.ref b197), .unset] [(.int (0 : Int32))])) _
          refine XS.istore X211.here hx rfl (own_hb hby at_224) rfl (l' := #[.val (.long p0), .second, .val (.long p1), .second, .val (.long p2), .second, .val (.long p3), .second, .val (.int p4), .val (.int p5), .val (.int v32), .val (.long v36), .second, .val (.long ((((p4 >>> ((2 : Int32) &&& 31)) &&& (3 : Int32)) - (1 : Int32)).toInt64)), .second, .val (.long v41), .second, .val (.int ((p5 &&& (255 : Int32)).toUInt32.toUInt16.toUInt32.toInt32)), .val (.int (((p5 >>> ((8 : Int32) &&& 31)) &&& (255 : Int32)).toUInt32.toUInt16.toUInt32.toInt32)), .val (.int (((p5 >>> ((16 : Int32) &&& 31)) &&& (255 : Int32)).toUInt32.toUInt16.toUInt32.toInt32)), .val (.int (((p5 >>> ((24 : Int32) &&& 31)) &&& (255 : Int32)).toUInt32.toUInt16.toUInt32.toInt32)), .val (.ref b44), .val (.ref b44), .val (.ref b181), .val (.ref b197), .val (.int (0 : Int32))]) rfl ?_
          show Steps p.tables e below (T211.setTop (mkF m 226 #[.val (.long p0), .second, .val (.long p1), .second, .val (.long p2), .second, .val (.long p3), .second, .val (.int p4), .val (.int p5), .val (.int v32), .val (.long v36), .second, .val (.long ((((p4 >>> ((2 : Int32) &&& 31)) &&& (3 : Int32)) - (1 : Int32)).toInt64)), .second, .val (.long v41), .second, .val (.int ((p5 &&& (255 : Int32)).toUInt32.toUInt16.toUInt32.toInt32)), .val (.int (((p5 >>> ((8 : Int32) &&& 31)) &&& (255 : Int32)).toUInt32.toUInt16.toUInt32.toInt32)), .val (.int (((p5 >>> ((16 : Int32) &&& 31)) &&& (255 : Int32)).toUInt32.toUInt16.toUInt32.toInt32)), .val (.int (((p5 >>> ((24 : Int32) &&& 31)) &&& (255 : Int32)).toUInt32.toUInt16.toUInt32.toInt32)), .val (.ref b44), .val (.ref b44), .val (.ref b181), .val (.ref b197), .val (.int (0 : Int32))] [])) _
          refine XS.goto X211.here hx rfl (pc0 := 226) (pc' := 243) rfl (own_hb hby at_226) (by decide) (by decide) ?_
          exact kt
      · skip
        by_cases hc233_222 : (0 : Int64) < v41
        · skip
          refine ⟨(1 : Int32), (Or.inr (Or.inr (Or.inl (⟨rfl, hc208_220, hc233_222⟩)))), fun t kt => ?_⟩
          show Steps p.tables e below (T211.setTop (mkF m 208 #[.val (.long p0), .second, .val (.long p1), .second, .val (.long p2), .second, .val (.long p3), .second, .val (.int p4), .val (.int p5), .val (.int v32), .val (.long v36), .second, .val (.long ((((p4 >>> ((2 : Int32) &&& 31)) &&& (3 : Int32)) - (1 : Int32)).toInt64)), .second, .val (.long v41), .second, .val (.int ((p5 &&& (255 : Int32)).toUInt32.toUInt16.toUInt32.toInt32)), .val (.int (((p5 >>> ((8 : Int32) &&& 31)) &&& (255 : Int32)).toUInt32.toUInt16.toUInt32.toInt32)), .val (.int (((p5 >>> ((16 : Int32) &&& 31)) &&& (255 : Int32)).toUInt32.toUInt16.toUInt32.toInt32)), .val (.int (((p5 >>> ((24 : Int32) &&& 31)) &&& (255 : Int32)).toUInt32.toUInt16.toUInt32.toInt32)), .val (.ref b44), .val (.ref b44), .val (.ref b181), .val (.ref b197), .unset] [(.int (lcmpW v36 p0))])) _
          refine XS.ifYes X211.here hx rfl (pc0 := 208) (pc' := 229) rfl (own_hb hby at_208) rfl ((if0 _ _).trans (feq (fun q => hc208_220 ((lw_eq _ _).mp q))).2) (by decide) (by decide) ?_
          show Steps p.tables e below (T211.setTop (mkF m 229 #[.val (.long p0), .second, .val (.long p1), .second, .val (.long p2), .second, .val (.long p3), .second, .val (.int p4), .val (.int p5), .val (.int v32), .val (.long v36), .second, .val (.long ((((p4 >>> ((2 : Int32) &&& 31)) &&& (3 : Int32)) - (1 : Int32)).toInt64)), .second, .val (.long v41), .second, .val (.int ((p5 &&& (255 : Int32)).toUInt32.toUInt16.toUInt32.toInt32)), .val (.int (((p5 >>> ((8 : Int32) &&& 31)) &&& (255 : Int32)).toUInt32.toUInt16.toUInt32.toInt32)), .val (.int (((p5 >>> ((16 : Int32) &&& 31)) &&& (255 : Int32)).toUInt32.toUInt16.toUInt32.toInt32)), .val (.int (((p5 >>> ((24 : Int32) &&& 31)) &&& (255 : Int32)).toUInt32.toUInt16.toUInt32.toInt32)), .val (.ref b44), .val (.ref b44), .val (.ref b181), .val (.ref b197), .unset] [])) _
          refine XS.lload X211.here hx rfl (own_hb hby at_229) rfl ?_
          show Steps p.tables e below (T211.setTop (mkF m 231 #[.val (.long p0), .second, .val (.long p1), .second, .val (.long p2), .second, .val (.long p3), .second, .val (.int p4), .val (.int p5), .val (.int v32), .val (.long v36), .second, .val (.long ((((p4 >>> ((2 : Int32) &&& 31)) &&& (3 : Int32)) - (1 : Int32)).toInt64)), .second, .val (.long v41), .second, .val (.int ((p5 &&& (255 : Int32)).toUInt32.toUInt16.toUInt32.toInt32)), .val (.int (((p5 >>> ((8 : Int32) &&& 31)) &&& (255 : Int32)).toUInt32.toUInt16.toUInt32.toInt32)), .val (.int (((p5 >>> ((16 : Int32) &&& 31)) &&& (255 : Int32)).toUInt32.toUInt16.toUInt32.toInt32)), .val (.int (((p5 >>> ((24 : Int32) &&& 31)) &&& (255 : Int32)).toUInt32.toUInt16.toUInt32.toInt32)), .val (.ref b44), .val (.ref b44), .val (.ref b181), .val (.ref b197), .unset] [(.long v41)])) _
          refine XS.lconst X211.here hx rfl (own_hb hby at_231) ?_
          show Steps p.tables e below (T211.setTop (mkF m 232 #[.val (.long p0), .second, .val (.long p1), .second, .val (.long p2), .second, .val (.long p3), .second, .val (.int p4), .val (.int p5), .val (.int v32), .val (.long v36), .second, .val (.long ((((p4 >>> ((2 : Int32) &&& 31)) &&& (3 : Int32)) - (1 : Int32)).toInt64)), .second, .val (.long v41), .second, .val (.int ((p5 &&& (255 : Int32)).toUInt32.toUInt16.toUInt32.toInt32)), .val (.int (((p5 >>> ((8 : Int32) &&& 31)) &&& (255 : Int32)).toUInt32.toUInt16.toUInt32.toInt32)), .val (.int (((p5 >>> ((16 : Int32) &&& 31)) &&& (255 : Int32)).toUInt32.toUInt16.toUInt32.toInt32)), .val (.int (((p5 >>> ((24 : Int32) &&& 31)) &&& (255 : Int32)).toUInt32.toUInt16.toUInt32.toInt32)), .val (.ref b44), .val (.ref b44), .val (.ref b181), .val (.ref b197), .unset] [(.long (0 : Int64)), (.long v41)])) _
          refine XS.lcmp X211.here hx rfl (own_hb hby at_232) rfl ?_
          show Steps p.tables e below (T211.setTop (mkF m 233 #[.val (.long p0), .second, .val (.long p1), .second, .val (.long p2), .second, .val (.long p3), .second, .val (.int p4), .val (.int p5), .val (.int v32), .val (.long v36), .second, .val (.long ((((p4 >>> ((2 : Int32) &&& 31)) &&& (3 : Int32)) - (1 : Int32)).toInt64)), .second, .val (.long v41), .second, .val (.int ((p5 &&& (255 : Int32)).toUInt32.toUInt16.toUInt32.toInt32)), .val (.int (((p5 >>> ((8 : Int32) &&& 31)) &&& (255 : Int32)).toUInt32.toUInt16.toUInt32.toInt32)), .val (.int (((p5 >>> ((16 : Int32) &&& 31)) &&& (255 : Int32)).toUInt32.toUInt16.toUInt32.toInt32)), .val (.int (((p5 >>> ((24 : Int32) &&& 31)) &&& (255 : Int32)).toUInt32.toUInt16.toUInt32.toInt32)), .val (.ref b44), .val (.ref b44), .val (.ref b181), .val (.ref b197), .unset] [(.int (lcmpW v41 (0 : Int64)))])) _
          refine XS.ifNo X211.here hx rfl (own_hb hby at_233) rfl ((if0 _ _).trans (tlt ((lw_gt _ _).mpr hc233_222)).2.2.2) ?_
          show Steps p.tables e below (T211.setTop (mkF m 236 #[.val (.long p0), .second, .val (.long p1), .second, .val (.long p2), .second, .val (.long p3), .second, .val (.int p4), .val (.int p5), .val (.int v32), .val (.long v36), .second, .val (.long ((((p4 >>> ((2 : Int32) &&& 31)) &&& (3 : Int32)) - (1 : Int32)).toInt64)), .second, .val (.long v41), .second, .val (.int ((p5 &&& (255 : Int32)).toUInt32.toUInt16.toUInt32.toInt32)), .val (.int (((p5 >>> ((8 : Int32) &&& 31)) &&& (255 : Int32)).toUInt32.toUInt16.toUInt32.toInt32)), .val (.int (((p5 >>> ((16 : Int32) &&& 31)) &&& (255 : Int32)).toUInt32.toUInt16.toUInt32.toInt32)), .val (.int (((p5 >>> ((24 : Int32) &&& 31)) &&& (255 : Int32)).toUInt32.toUInt16.toUInt32.toInt32)), .val (.ref b44), .val (.ref b44), .val (.ref b181), .val (.ref b197), .unset] [])) _
          refine XS.iconst X211.here hx rfl (own_hb hby at_236) ?_
          show Steps p.tables e below (T211.setTop (mkF m 237 #[.val (.long p0), .second, .val (.long p1), .second, .val (.long p2), .second, .val (.long p3), .second, .val (.int p4), .val (.int p5), .val (.int v32), .val (.long v36), .second, .val (.long ((((p4 >>> ((2 : Int32) &&& 31)) &&& (3 : Int32)) - (1 : Int32)).toInt64)), .second, .val (.long v41), .second, .val (.int ((p5 &&& (255 : Int32)).toUInt32.toUInt16.toUInt32.toInt32)), .val (.int (((p5 >>> ((8 : Int32) &&& 31)) &&& (255 : Int32)).toUInt32.toUInt16.toUInt32.toInt32)), .val (.int (((p5 >>> ((16 : Int32) &&& 31)) &&& (255 : Int32)).toUInt32.toUInt16.toUInt32.toInt32)), .val (.int (((p5 >>> ((24 : Int32) &&& 31)) &&& (255 : Int32)).toUInt32.toUInt16.toUInt32.toInt32)), .val (.ref b44), .val (.ref b44), .val (.ref b181), .val (.ref b197), .unset] [(.int (1 : Int32))])) _
          refine XS.goto X211.here hx rfl (pc0 := 237) (pc' := 241) rfl (own_hb hby at_237) (by decide) (by decide) ?_
          show Steps p.tables e below (T211.setTop (mkF m 241 #[.val (.long p0), .second, .val (.long p1), .second, .val (.long p2), .second, .val (.long p3), .second, .val (.int p4), .val (.int p5), .val (.int v32), .val (.long v36), .second, .val (.long ((((p4 >>> ((2 : Int32) &&& 31)) &&& (3 : Int32)) - (1 : Int32)).toInt64)), .second, .val (.long v41), .second, .val (.int ((p5 &&& (255 : Int32)).toUInt32.toUInt16.toUInt32.toInt32)), .val (.int (((p5 >>> ((8 : Int32) &&& 31)) &&& (255 : Int32)).toUInt32.toUInt16.toUInt32.toInt32)), .val (.int (((p5 >>> ((16 : Int32) &&& 31)) &&& (255 : Int32)).toUInt32.toUInt16.toUInt32.toInt32)), .val (.int (((p5 >>> ((24 : Int32) &&& 31)) &&& (255 : Int32)).toUInt32.toUInt16.toUInt32.toInt32)), .val (.ref b44), .val (.ref b44), .val (.ref b181), .val (.ref b197), .unset] [(.int (1 : Int32))])) _
          refine XS.istore X211.here hx rfl (own_hb hby at_241) rfl (l' := #[.val (.long p0), .second, .val (.long p1), .second, .val (.long p2), .second, .val (.long p3), .second, .val (.int p4), .val (.int p5), .val (.int v32), .val (.long v36), .second, .val (.long ((((p4 >>> ((2 : Int32) &&& 31)) &&& (3 : Int32)) - (1 : Int32)).toInt64)), .second, .val (.long v41), .second, .val (.int ((p5 &&& (255 : Int32)).toUInt32.toUInt16.toUInt32.toInt32)), .val (.int (((p5 >>> ((8 : Int32) &&& 31)) &&& (255 : Int32)).toUInt32.toUInt16.toUInt32.toInt32)), .val (.int (((p5 >>> ((16 : Int32) &&& 31)) &&& (255 : Int32)).toUInt32.toUInt16.toUInt32.toInt32)), .val (.int (((p5 >>> ((24 : Int32) &&& 31)) &&& (255 : Int32)).toUInt32.toUInt16.toUInt32.toInt32)), .val (.ref b44), .val (.ref b44), .val (.ref b181), .val (.ref b197), .val (.int (1 : Int32))]) rfl ?_
          exact kt
        · skip
          refine ⟨(0 : Int32), (Or.inr (Or.inr (Or.inr (⟨rfl, hc208_220, hc233_222⟩)))), fun t kt => ?_⟩
          show Steps p.tables e below (T211.setTop (mkF m 208 #[.val (.long p0), .second, .val (.long p1), .second, .val (.long p2), .second, .val (.long p3), .second, .val (.int p4), .val (.int p5), .val (.int v32), .val (.long v36), .second, .val (.long ((((p4 >>> ((2 : Int32) &&& 31)) &&& (3 : Int32)) - (1 : Int32)).toInt64)), .second, .val (.long v41), .second, .val (.int ((p5 &&& (255 : Int32)).toUInt32.toUInt16.toUInt32.toInt32)), .val (.int (((p5 >>> ((8 : Int32) &&& 31)) &&& (255 : Int32)).toUInt32.toUInt16.toUInt32.toInt32)), .val (.int (((p5 >>> ((16 : Int32) &&& 31)) &&& (255 : Int32)).toUInt32.toUInt16.toUInt32.toInt32)), .val (.int (((p5 >>> ((24 : Int32) &&& 31)) &&& (255 : Int32)).toUInt32.toUInt16.toUInt32.toInt32)), .val (.ref b44), .val (.ref b44), .val (.ref b181), .val (.ref b197), .unset] [(.int (lcmpW v36 p0))])) _
          refine XS.ifYes X211.here hx rfl (pc0 := 208) (pc' := 229) rfl (own_hb hby at_208) rfl ((if0 _ _).trans (feq (fun q => hc208_220 ((lw_eq _ _).mp q))).2) (by decide) (by decide) ?_
          show Steps p.tables e below (T211.setTop (mkF m 229 #[.val (.long p0), .second, .val (.long p1), .second, .val (.long p2), .second, .val (.long p3), .second, .val (.int p4), .val (.int p5), .val (.int v32), .val (.long v36), .second, .val (.long ((((p4 >>> ((2 : Int32) &&& 31)) &&& (3 : Int32)) - (1 : Int32)).toInt64)), .second, .val (.long v41), .second, .val (.int ((p5 &&& (255 : Int32)).toUInt32.toUInt16.toUInt32.toInt32)), .val (.int (((p5 >>> ((8 : Int32) &&& 31)) &&& (255 : Int32)).toUInt32.toUInt16.toUInt32.toInt32)), .val (.int (((p5 >>> ((16 : Int32) &&& 31)) &&& (255 : Int32)).toUInt32.toUInt16.toUInt32.toInt32)), .val (.int (((p5 >>> ((24 : Int32) &&& 31)) &&& (255 : Int32)).toUInt32.toUInt16.toUInt32.toInt32)), .val (.ref b44), .val (.ref b44), .val (.ref b181), .val (.ref b197), .unset] [])) _
          refine XS.lload X211.here hx rfl (own_hb hby at_229) rfl ?_
          show Steps p.tables e below (T211.setTop (mkF m 231 #[.val (.long p0), .second, .val (.long p1), .second, .val (.long p2), .second, .val (.long p3), .second, .val (.int p4), .val (.int p5), .val (.int v32), .val (.long v36), .second, .val (.long ((((p4 >>> ((2 : Int32) &&& 31)) &&& (3 : Int32)) - (1 : Int32)).toInt64)), .second, .val (.long v41), .second, .val (.int ((p5 &&& (255 : Int32)).toUInt32.toUInt16.toUInt32.toInt32)), .val (.int (((p5 >>> ((8 : Int32) &&& 31)) &&& (255 : Int32)).toUInt32.toUInt16.toUInt32.toInt32)), .val (.int (((p5 >>> ((16 : Int32) &&& 31)) &&& (255 : Int32)).toUInt32.toUInt16.toUInt32.toInt32)), .val (.int (((p5 >>> ((24 : Int32) &&& 31)) &&& (255 : Int32)).toUInt32.toUInt16.toUInt32.toInt32)), .val (.ref b44), .val (.ref b44), .val (.ref b181), .val (.ref b197), .unset] [(.long v41)])) _
          refine XS.lconst X211.here hx rfl (own_hb hby at_231) ?_
          show Steps p.tables e below (T211.setTop (mkF m 232 #[.val (.long p0), .second, .val (.long p1), .second, .val (.long p2), .second, .val (.long p3), .second, .val (.int p4), .val (.int p5), .val (.int v32), .val (.long v36), .second, .val (.long ((((p4 >>> ((2 : Int32) &&& 31)) &&& (3 : Int32)) - (1 : Int32)).toInt64)), .second, .val (.long v41), .second, .val (.int ((p5 &&& (255 : Int32)).toUInt32.toUInt16.toUInt32.toInt32)), .val (.int (((p5 >>> ((8 : Int32) &&& 31)) &&& (255 : Int32)).toUInt32.toUInt16.toUInt32.toInt32)), .val (.int (((p5 >>> ((16 : Int32) &&& 31)) &&& (255 : Int32)).toUInt32.toUInt16.toUInt32.toInt32)), .val (.int (((p5 >>> ((24 : Int32) &&& 31)) &&& (255 : Int32)).toUInt32.toUInt16.toUInt32.toInt32)), .val (.ref b44), .val (.ref b44), .val (.ref b181), .val (.ref b197), .unset] [(.long (0 : Int64)), (.long v41)])) _
          refine XS.lcmp X211.here hx rfl (own_hb hby at_232) rfl ?_
          show Steps p.tables e below (T211.setTop (mkF m 233 #[.val (.long p0), .second, .val (.long p1), .second, .val (.long p2), .second, .val (.long p3), .second, .val (.int p4), .val (.int p5), .val (.int v32), .val (.long v36), .second, .val (.long ((((p4 >>> ((2 : Int32) &&& 31)) &&& (3 : Int32)) - (1 : Int32)).toInt64)), .second, .val (.long v41), .second, .val (.int ((p5 &&& (255 : Int32)).toUInt32.toUInt16.toUInt32.toInt32)), .val (.int (((p5 >>> ((8 : Int32) &&& 31)) &&& (255 : Int32)).toUInt32.toUInt16.toUInt32.toInt32)), .val (.int (((p5 >>> ((16 : Int32) &&& 31)) &&& (255 : Int32)).toUInt32.toUInt16.toUInt32.toInt32)), .val (.int (((p5 >>> ((24 : Int32) &&& 31)) &&& (255 : Int32)).toUInt32.toUInt16.toUInt32.toInt32)), .val (.ref b44), .val (.ref b44), .val (.ref b181), .val (.ref b197), .unset] [(.int (lcmpW v41 (0 : Int64)))])) _
          refine XS.ifYes X211.here hx rfl (pc0 := 233) (pc' := 240) rfl (own_hb hby at_233) rfl ((if0 _ _).trans (flt (fun q => hc233_222 ((lw_gt _ _).mp q))).2.2.2) (by decide) (by decide) ?_
          show Steps p.tables e below (T211.setTop (mkF m 240 #[.val (.long p0), .second, .val (.long p1), .second, .val (.long p2), .second, .val (.long p3), .second, .val (.int p4), .val (.int p5), .val (.int v32), .val (.long v36), .second, .val (.long ((((p4 >>> ((2 : Int32) &&& 31)) &&& (3 : Int32)) - (1 : Int32)).toInt64)), .second, .val (.long v41), .second, .val (.int ((p5 &&& (255 : Int32)).toUInt32.toUInt16.toUInt32.toInt32)), .val (.int (((p5 >>> ((8 : Int32) &&& 31)) &&& (255 : Int32)).toUInt32.toUInt16.toUInt32.toInt32)), .val (.int (((p5 >>> ((16 : Int32) &&& 31)) &&& (255 : Int32)).toUInt32.toUInt16.toUInt32.toInt32)), .val (.int (((p5 >>> ((24 : Int32) &&& 31)) &&& (255 : Int32)).toUInt32.toUInt16.toUInt32.toInt32)), .val (.ref b44), .val (.ref b44), .val (.ref b181), .val (.ref b197), .unset] [])) _
          refine XS.iconst X211.here hx rfl (own_hb hby at_240) ?_
          show Steps p.tables e below (T211.setTop (mkF m 241 #[.val (.long p0), .second, .val (.long p1), .second, .val (.long p2), .second, .val (.long p3), .second, .val (.int p4), .val (.int p5), .val (.int v32), .val (.long v36), .second, .val (.long ((((p4 >>> ((2 : Int32) &&& 31)) &&& (3 : Int32)) - (1 : Int32)).toInt64)), .second, .val (.long v41), .second, .val (.int ((p5 &&& (255 : Int32)).toUInt32.toUInt16.toUInt32.toInt32)), .val (.int (((p5 >>> ((8 : Int32) &&& 31)) &&& (255 : Int32)).toUInt32.toUInt16.toUInt32.toInt32)), .val (.int (((p5 >>> ((16 : Int32) &&& 31)) &&& (255 : Int32)).toUInt32.toUInt16.toUInt32.toInt32)), .val (.int (((p5 >>> ((24 : Int32) &&& 31)) &&& (255 : Int32)).toUInt32.toUInt16.toUInt32.toInt32)), .val (.ref b44), .val (.ref b44), .val (.ref b181), .val (.ref b197), .unset] [(.int (0 : Int32))])) _
          refine XS.istore X211.here hx rfl (own_hb hby at_241) rfl (l' := #[.val (.long p0), .second, .val (.long p1), .second, .val (.long p2), .second, .val (.long p3), .second, .val (.int p4), .val (.int p5), .val (.int v32), .val (.long v36), .second, .val (.long ((((p4 >>> ((2 : Int32) &&& 31)) &&& (3 : Int32)) - (1 : Int32)).toInt64)), .second, .val (.long v41), .second, .val (.int ((p5 &&& (255 : Int32)).toUInt32.toUInt16.toUInt32.toInt32)), .val (.int (((p5 >>> ((8 : Int32) &&& 31)) &&& (255 : Int32)).toUInt32.toUInt16.toUInt32.toInt32)), .val (.int (((p5 >>> ((16 : Int32) &&& 31)) &&& (255 : Int32)).toUInt32.toUInt16.toUInt32.toInt32)), .val (.int (((p5 >>> ((24 : Int32) &&& 31)) &&& (255 : Int32)).toUInt32.toUInt16.toUInt32.toInt32)), .val (.ref b44), .val (.ref b44), .val (.ref b181), .val (.ref b197), .val (.int (0 : Int32))]) rfl ?_
          exact kt
    refine own_Go.of (S' := (T211.setTop (mkF m 243 #[.val (.long p0), .second, .val (.long p1), .second, .val (.long p2), .second, .val (.long p3), .second, .val (.int p4), .val (.int p5), .val (.int v32), .val (.long v36), .second, .val (.long ((((p4 >>> ((2 : Int32) &&& 31)) &&& (3 : Int32)) - (1 : Int32)).toInt64)), .second, .val (.long v41), .second, .val (.int ((p5 &&& (255 : Int32)).toUInt32.toUInt16.toUInt32.toInt32)), .val (.int (((p5 >>> ((8 : Int32) &&& 31)) &&& (255 : Int32)).toUInt32.toUInt16.toUInt32.toInt32)), .val (.int (((p5 >>> ((16 : Int32) &&& 31)) &&& (255 : Int32)).toUInt32.toUInt16.toUInt32.toInt32)), .val (.int (((p5 >>> ((24 : Int32) &&& 31)) &&& (255 : Int32)).toUInt32.toUInt16.toUInt32.toInt32)), .val (.ref b44), .val (.ref b44), .val (.ref b181), .val (.ref b197), .val (.int v223)] []))) st224 ?_
    have hfin : own_behind p0 p2 v36 v41 = v223 := by
      unfold own_behind
      rcases hd225 with ⟨q, q1, q2⟩ | ⟨q, q1, q2⟩ | ⟨q, q1, q2⟩ | ⟨q, q1, q2⟩
      all_goals (rw [q]; simp only [q1, q2, if_true, if_false])
    refine own_Go.of (S' := (T211.setTop (mkF m 247 #[.val (.long p0), .second, .val (.long p1), .second, .val (.long p2), .second, .val (.long p3), .second, .val (.int p4), .val (.int p5), .val (.int v32), .val (.long v36), .second, .val (.long ((((p4 >>> ((2 : Int32) &&& 31)) &&& (3 : Int32)) - (1 : Int32)).toInt64)), .second, .val (.long v41), .second, .val (.int ((p5 &&& (255 : Int32)).toUInt32.toUInt16.toUInt32.toInt32)), .val (.int (((p5 >>> ((8 : Int32) &&& 31)) &&& (255 : Int32)).toUInt32.toUInt16.toUInt32.toInt32)), .val (.int (((p5 >>> ((16 : Int32) &&& 31)) &&& (255 : Int32)).toUInt32.toUInt16.toUInt32.toInt32)), .val (.int (((p5 >>> ((24 : Int32) &&& 31)) &&& (255 : Int32)).toUInt32.toUInt16.toUInt32.toInt32)), .val (.ref b44), .val (.ref b44), .val (.ref b181), .val (.ref b197), .val (.int v223)] [(.ref b197), (.ref b181)]))) (fun t kt => ?_) ?_
    · show Steps p.tables e below (T211.setTop (mkF m 243 #[.val (.long p0), .second, .val (.long p1), .second, .val (.long p2), .second, .val (.long p3), .second, .val (.int p4), .val (.int p5), .val (.int v32), .val (.long v36), .second, .val (.long ((((p4 >>> ((2 : Int32) &&& 31)) &&& (3 : Int32)) - (1 : Int32)).toInt64)), .second, .val (.long v41), .second, .val (.int ((p5 &&& (255 : Int32)).toUInt32.toUInt16.toUInt32.toInt32)), .val (.int (((p5 >>> ((8 : Int32) &&& 31)) &&& (255 : Int32)).toUInt32.toUInt16.toUInt32.toInt32)), .val (.int (((p5 >>> ((16 : Int32) &&& 31)) &&& (255 : Int32)).toUInt32.toUInt16.toUInt32.toInt32)), .val (.int (((p5 >>> ((24 : Int32) &&& 31)) &&& (255 : Int32)).toUInt32.toUInt16.toUInt32.toInt32)), .val (.ref b44), .val (.ref b44), .val (.ref b181), .val (.ref b197), .val (.int v223)] [])) _
      refine XS.aload X211.here hx rfl (own_hb hby at_243) rfl rfl ?_
      show Steps p.tables e below (T211.setTop (mkF m 245 #[.val (.long p0), .second, .val (.long p1), .second, .val (.long p2), .second, .val (.long p3), .second, .val (.int p4), .val (.int p5), .val (.int v32), .val (.long v36), .second, .val (.long ((((p4 >>> ((2 : Int32) &&& 31)) &&& (3 : Int32)) - (1 : Int32)).toInt64)), .second, .val (.long v41), .second, .val (.int ((p5 &&& (255 : Int32)).toUInt32.toUInt16.toUInt32.toInt32)), .val (.int (((p5 >>> ((8 : Int32) &&& 31)) &&& (255 : Int32)).toUInt32.toUInt16.toUInt32.toInt32)), .val (.int (((p5 >>> ((16 : Int32) &&& 31)) &&& (255 : Int32)).toUInt32.toUInt16.toUInt32.toInt32)), .val (.int (((p5 >>> ((24 : Int32) &&& 31)) &&& (255 : Int32)).toUInt32.toUInt16.toUInt32.toInt32)), .val (.ref b44), .val (.ref b44), .val (.ref b181), .val (.ref b197), .val (.int v223)] [(.ref b181)])) _
      refine XS.aload X211.here hx rfl (own_hb hby at_245) rfl rfl ?_
      exact kt
    obtain ⟨cq226, kq226, q226a, q226b, q226c⟩ := isOf hZ rfl f215
    obtain ⟨_, _, ⟨T226, L226, k226, n226⟩, -, X226, ⟨Lc226, hQ226, l226, y226, z226⟩, st226⟩ := X211.virtualBack hx (y := (⟨"com/example/hearsay/hearsay/community/Stamp", "isBehind", "(Lcom/example/hearsay/hearsay/community/Stamp;)Z"⟩ : MethodName)) (z := (⟨"com/example/hearsay/hearsay/community/Stamp", "isBehind", "(Lcom/example/hearsay/hearsay/community/Stamp;)Z"⟩ : MethodName)) hown (mvT hZ (hw _ (List.mem_of_getElem? (i := 48) rfl))) (mvT hZ (hw _ (List.mem_of_getElem? (i := 49) rfl))) (notFace_of_selects (args := #[]) (mvT hZ (hw _ (List.mem_of_getElem? (i := 51) rfl)))) (mvT hZ (hw _ (List.mem_of_getElem? (i := 51) rfl))) (mvT hZ (hw _ (List.mem_of_getElem? (i := 50) rfl))) (by decide) (backOf (W := 0) (rm9 l Z a0 hw [] b181 b197 p0 p2 v36 v41 T211.heap n0 z219 f216 f217 p211_1 p211_2) hZ (hw _ (List.mem_of_getElem? (i := 52) rfl)) (hw _ (List.mem_of_getElem? (i := 32) rfl)) (by decide) (by decide)) q226a q226c (g := (mkF m 247 #[.val (.long p0), .second, .val (.long p1), .second, .val (.long p2), .second, .val (.long p3), .second, .val (.int p4), .val (.int p5), .val (.int v32), .val (.long v36), .second, .val (.long ((((p4 >>> ((2 : Int32) &&& 31)) &&& (3 : Int32)) - (1 : Int32)).toInt64)), .second, .val (.long v41), .second, .val (.int ((p5 &&& (255 : Int32)).toUInt32.toUInt16.toUInt32.toInt32)), .val (.int (((p5 >>> ((8 : Int32) &&& 31)) &&& (255 : Int32)).toUInt32.toUInt16.toUInt32.toInt32)), .val (.int (((p5 >>> ((16 : Int32) &&& 31)) &&& (255 : Int32)).toUInt32.toUInt16.toUInt32.toInt32)), .val (.int (((p5 >>> ((24 : Int32) &&& 31)) &&& (255 : Int32)).toUInt32.toUInt16.toUInt32.toInt32)), .val (.ref b44), .val (.ref b44), .val (.ref b181), .val (.ref b197), .val (.int v223)] [(.ref b197), (.ref b181)])) rfl (by rw [hml]; rfl) (Steps.refl _) (argsL := [(.ref b197)]) (rest := []) (lenOf pd_3 rfl) rfl (by show 2 * 0 + _ ≤ _; exact Nat.le_of_eq rfl) (own_hb hby at_247) (fun _ _ => ⟨rfl, rfl, (by decide : 5 + 0 ≤ _), (by decide : 14 + 0 ≤ _)⟩)
    dsimp only [Pt.U, Pt.locs, Pt.cells, Pt.slots] at X226 l226 y226 z226 st226 hQ226
    subst l226 y226 z226
    obtain ⟨rfl, N226q, hh226⟩ := hQ226
    have N226 := Fr.app N211 N226q
    refine own_Go.of (S' := (T226.setTop (mkF m 250 #[.val (.long p0), .second, .val (.long p1), .second, .val (.long p2), .second, .val (.long p3), .second, .val (.int p4), .val (.int p5), .val (.int v32), .val (.long v36), .second, .val (.long ((((p4 >>> ((2 : Int32) &&& 31)) &&& (3 : Int32)) - (1 : Int32)).toInt64)), .second, .val (.long v41), .second, .val (.int ((p5 &&& (255 : Int32)).toUInt32.toUInt16.toUInt32.toInt32)), .val (.int (((p5 >>> ((8 : Int32) &&& 31)) &&& (255 : Int32)).toUInt32.toUInt16.toUInt32.toInt32)), .val (.int (((p5 >>> ((16 : Int32) &&& 31)) &&& (255 : Int32)).toUInt32.toUInt16.toUInt32.toInt32)), .val (.int (((p5 >>> ((24 : Int32) &&& 31)) &&& (255 : Int32)).toUInt32.toUInt16.toUInt32.toInt32)), .val (.ref b44), .val (.ref b44), .val (.ref b181), .val (.ref b197), .val (.int v223)] [(.int (own_behind p0 p2 v36 v41))]))) (fun t kt => st226.trans kt) ?_
    refine own_Go.of (S' := (T226.setTop (mkF m 260 #[.val (.long p0), .second, .val (.long p1), .second, .val (.long p2), .second, .val (.long p3), .second, .val (.int p4), .val (.int p5), .val (.int v32), .val (.long v36), .second, .val (.long ((((p4 >>> ((2 : Int32) &&& 31)) &&& (3 : Int32)) - (1 : Int32)).toInt64)), .second, .val (.long v41), .second, .val (.int ((p5 &&& (255 : Int32)).toUInt32.toUInt16.toUInt32.toInt32)), .val (.int (((p5 >>> ((8 : Int32) &&& 31)) &&& (255 : Int32)).toUInt32.toUInt16.toUInt32.toInt32)), .val (.int (((p5 >>> ((16 : Int32) &&& 31)) &&& (255 : Int32)).toUInt32.toUInt16.toUInt32.toInt32)), .val (.int (((p5 >>> ((24 : Int32) &&& 31)) &&& (255 : Int32)).toUInt32.toUInt16.toUInt32.toInt32)), .val (.ref b44), .val (.ref b44), .val (.ref b181), .val (.ref b197), .val (.int v223)] [(.int (1 : Int32))]))) (fun t kt => ?_) ?_
    · show Steps p.tables e below (T226.setTop (mkF m 250 #[.val (.long p0), .second, .val (.long p1), .second, .val (.long p2), .second, .val (.long p3), .second, .val (.int p4), .val (.int p5), .val (.int v32), .val (.long v36), .second, .val (.long ((((p4 >>> ((2 : Int32) &&& 31)) &&& (3 : Int32)) - (1 : Int32)).toInt64)), .second, .val (.long v41), .second, .val (.int ((p5 &&& (255 : Int32)).toUInt32.toUInt16.toUInt32.toInt32)), .val (.int (((p5 >>> ((8 : Int32) &&& 31)) &&& (255 : Int32)).toUInt32.toUInt16.toUInt32.toInt32)), .val (.int (((p5 >>> ((16 : Int32) &&& 31)) &&& (255 : Int32)).toUInt32.toUInt16.toUInt32.toInt32)), .val (.int (((p5 >>> ((24 : Int32) &&& 31)) &&& (255 : Int32)).toUInt32.toUInt16.toUInt32.toInt32)), .val (.ref b44), .val (.ref b44), .val (.ref b181), .val (.ref b197), .val (.int v223)] [(.int (own_behind p0 p2 v36 v41))])) _
      refine XS.iload X226.here hx rfl (own_hb hby at_250) rfl ?_
      show Steps p.tables e below (T226.setTop (mkF m 252 #[.val (.long p0), .second, .val (.long p1), .second, .val (.long p2), .second, .val (.long p3), .second, .val (.int p4), .val (.int p5), .val (.int v32), .val (.long v36), .second, .val (.long ((((p4 >>> ((2 : Int32) &&& 31)) &&& (3 : Int32)) - (1 : Int32)).toInt64)), .second, .val (.long v41), .second, .val (.int ((p5 &&& (255 : Int32)).toUInt32.toUInt16.toUInt32.toInt32)), .val (.int (((p5 >>> ((8 : Int32) &&& 31)) &&& (255 : Int32)).toUInt32.toUInt16.toUInt32.toInt32)), .val (.int (((p5 >>> ((16 : Int32) &&& 31)) &&& (255 : Int32)).toUInt32.toUInt16.toUInt32.toInt32)), .val (.int (((p5 >>> ((24 : Int32) &&& 31)) &&& (255 : Int32)).toUInt32.toUInt16.toUInt32.toInt32)), .val (.ref b44), .val (.ref b44), .val (.ref b181), .val (.ref b197), .val (.int v223)] [(.int v223), (.int (own_behind p0 p2 v36 v41))])) _
      refine XS.icmpNo X226.here hx rfl (own_hb hby at_252) rfl (teq hfin).2 ?_
      show Steps p.tables e below (T226.setTop (mkF m 255 #[.val (.long p0), .second, .val (.long p1), .second, .val (.long p2), .second, .val (.long p3), .second, .val (.int p4), .val (.int p5), .val (.int v32), .val (.long v36), .second, .val (.long ((((p4 >>> ((2 : Int32) &&& 31)) &&& (3 : Int32)) - (1 : Int32)).toInt64)), .second, .val (.long v41), .second, .val (.int ((p5 &&& (255 : Int32)).toUInt32.toUInt16.toUInt32.toInt32)), .val (.int (((p5 >>> ((8 : Int32) &&& 31)) &&& (255 : Int32)).toUInt32.toUInt16.toUInt32.toInt32)), .val (.int (((p5 >>> ((16 : Int32) &&& 31)) &&& (255 : Int32)).toUInt32.toUInt16.toUInt32.toInt32)), .val (.int (((p5 >>> ((24 : Int32) &&& 31)) &&& (255 : Int32)).toUInt32.toUInt16.toUInt32.toInt32)), .val (.ref b44), .val (.ref b44), .val (.ref b181), .val (.ref b197), .val (.int v223)] [])) _
      refine XS.iconst X226.here hx rfl (own_hb hby at_255) ?_
      show Steps p.tables e below (T226.setTop (mkF m 256 #[.val (.long p0), .second, .val (.long p1), .second, .val (.long p2), .second, .val (.long p3), .second, .val (.int p4), .val (.int p5), .val (.int v32), .val (.long v36), .second, .val (.long ((((p4 >>> ((2 : Int32) &&& 31)) &&& (3 : Int32)) - (1 : Int32)).toInt64)), .second, .val (.long v41), .second, .val (.int ((p5 &&& (255 : Int32)).toUInt32.toUInt16.toUInt32.toInt32)), .val (.int (((p5 >>> ((8 : Int32) &&& 31)) &&& (255 : Int32)).toUInt32.toUInt16.toUInt32.toInt32)), .val (.int (((p5 >>> ((16 : Int32) &&& 31)) &&& (255 : Int32)).toUInt32.toUInt16.toUInt32.toInt32)), .val (.int (((p5 >>> ((24 : Int32) &&& 31)) &&& (255 : Int32)).toUInt32.toUInt16.toUInt32.toInt32)), .val (.ref b44), .val (.ref b44), .val (.ref b181), .val (.ref b197), .val (.int v223)] [(.int (1 : Int32))])) _
      refine XS.goto X226.here hx rfl (pc0 := 256) (pc' := 260) rfl (own_hb hby at_256) (by decide) (by decide) ?_
      exact kt
    exact own_retN X226 hx hlk (t := .boolean) hret (by simp) (own_hb hby at_260) hh226 ⟨rfl, N226⟩ (by decide) (by decide)
set_option maxRecDepth 65536 in
set_option maxHeartbeats 40000000 in
theorem comes_1 {Post : Tables → Env → Array Value → State → Outcome → State → Prop} (hpost : ∀ tb e args s v u, (limb_1_1.after args s (.returned v) u = true ∧ limb_1_2.after args s (.returned v) u = true ∧ True) → FrameEnd s (.returned v) u (Jvm.fieldLocs frame_1_writes args s ++ Jvm.arrayLocs frame_1_arrays args s ++ Jvm.staticLocs frame_1_statics s) 24 128 → Post tb e args s (.returned v) u) :
    ArmFor flags0 classFile x code maxLocals ret World_1 tables_1 room_1 Calls_1 rest_1 Pre_1 Post := by
  intro l hfl _ _ p e ha hc hk s m args below hf hA hF happ hP
  obtain ⟨hcalls, hrest, hpre⟩ := hP
  obtain ⟨-, -, -, hnamed, -, -, -, hat⟩ := (Spec.applies_iff hf).mp happ
  obtain ⟨hg, hn⟩ := and_e (Cond.before_iff.mp (show (Jvm.Cond.and given_1 narrow_1).before args s = true from hpre))
  obtain ⟨gc, gr0⟩ := and_e hg
  obtain ⟨ga0, gr1⟩ := and_e gr0
  obtain ⟨ga1, gr2⟩ := and_e gr1
  obtain ⟨ga2, gr3⟩ := and_e gr2
  obtain ⟨ga3, gr4⟩ := and_e gr3
  obtain ⟨ga4, gr5⟩ := and_e gr4
  obtain ⟨w0, w1, w2, w3, w4, w5, rfl⟩ : ∃ w0 w1 w2 w3 w4 w5 : Value, args = #[w0, w1, w2, w3, w4, w5] := by
    have hs : args.size = 6 := by simpa [Cond.value, given_1] using gc
    obtain ⟨L⟩ := args
    match L, hs with
    | [w0, w1, w2, w3, w4, w5], _ => exact ⟨w0, w1, w2, w3, w4, w5, rfl⟩
  have hw := fun d (hd : d ∈ tables_1) => atoms_spec (ws := Jvm.Cond.code x code maxLocals ret :: tables_1) hat d (List.mem_cons_of_mem _ hd)
  have hfit : Fit s := fun {y c} hc i hi => by
    obtain ⟨ha, rfl⟩ := Array.getElem?_eq_some_iff.mp hc
    have q := List.all_eq_true.mp ((Array.all_eq_true_iff_forall_mem.mp hF) _ (Array.getElem_mem ha)) i (List.mem_range.mpr hi)
    simpa [Array.getElem?_eq_getElem hi] using q
  obtain ⟨hsets, hown0⟩ := atoms_of _ (rest_1_c_eq ▸ (show rest_1_c.before _ s = true from hrest))
  have hr0 := Cond.before_iff.mp hown0
  obtain ⟨i0, ei0⟩ := isL_v ga0
  obtain rfl : w0 = (.long i0) := Option.some.inj ei0
  obtain ⟨i1, ei1⟩ := isL_v ga1
  obtain rfl : w1 = (.long i1) := Option.some.inj ei1
  obtain ⟨i2, ei2⟩ := isL_v ga2
  obtain rfl : w2 = (.long i2) := Option.some.inj ei2
  obtain ⟨i3, ei3⟩ := isL_v ga3
  obtain rfl : w3 = (.long i3) := Option.some.inj ei3
  obtain ⟨i4, ei4⟩ := is_v ga4
  obtain rfl : w4 = (.int i4) := Option.some.inj ei4
  obtain ⟨i5, ei5⟩ := is_v gr5
  obtain rfl : w5 = (.int i5) := Option.some.inj ei5
  have n3 := not_v (Cond.before_iff.mp (hsets _ (List.mem_of_getElem? (i := 2) rfl)))
  obtain ⟨zc, ezc⟩ := is_v (Cond.before_iff.mp (hsets _ (List.mem_of_getElem? (i := 1) rfl)))
  have S8 : Sta s s.heap "java/lang/String" "COMPACT_STRINGS" "Z" (.int zc) := Sta.start ezc (Or.inl (hsets _ (List.mem_of_getElem? (i := 0) rfl)))
  have c9 : ¬ (zc = (0 : Int32)) := gotF (Cond.eq_ints ezc (Term.int_eval (0))) n3
  obtain ⟨n, o, h1, h2, h3, _, L, rfl, ⟨rfl, N⟩, hq⟩ := rm0 l s _ hw tables_1 i0 i1 i2 i3 i4 i5 zc s.heap s.heap.size (Nat.le_refl _) (Old.start s) S8 c9 p e ha hc hk s m _ below hf ((Spec.applies_iff_loose hf).mp happ).1 ⟨rfl, State.Warmed39.refl s, rfl⟩ trivial
  refine ⟨n, _, h1, h2, h3, hpost _ _ _ _ _ _ ⟨Cond.after_iff.mpr rfl, Cond.after_iff.mpr (eq_i res_at (Term.int_eval (1)) rfl), trivial⟩ ⟨hq.1, hq.2.1, (hq.2.2.sift fun y hy => Or.inr (N y hy)).mono (by decide) (by decide)⟩⟩
theorem main_1_1 : Claimed_1_1 := comes_1 fun _ _ _ _ _ _ h hF => ⟨h.1, hF⟩
theorem main_1_2 : Claimed_1_2 := comes_1 fun _ _ _ _ _ _ h hF => ⟨h.2.1, hF⟩
end Jvm.Pilot.@@N@@
namespace Jvm.Pilot.@@N@@
open Jvm Jvm.ClassFile Sem Op Lib Jvm.Free Jvm.Stand Jvm.Pilot.@@N@@.Jvm.D
/-! MADE BY PROGRAM (witnessworld.py) out of the Statement's table words and the real class files: 21 classes; the members and pool entries that the words name. The judged class is class 1, her method 1. -/
namespace start1
open Jvm.ClassFile
def u (s : String) : CpInfo := .utf8 (stringToUtf16 s)
/-- a pool by its gaps: so many unusable entries, then the entry; so many at the end -/
def gap : Nat → List CpInfo → List CpInfo
  | 0, r => r
  | n + 1, r => .unusable :: gap n r
def poolList (es : List (Nat × CpInfo)) (last : Nat) : List CpInfo := es.foldr (fun e r => gap e.1 (e.2 :: r)) (gap last [])
def pool (es : List (Nat × CpInfo)) (last : Nat) : Array CpInfo := ⟨poolList es last⟩
def fileOf (pool : Array CpInfo) (this : Nat) (attrs : Array Attribute := #[]) (ms : Array MethodInfo := #[]) (fl : Nat := 33) (sup : Nat := 0) (ifs : Array Nat := #[]) (fds : Array FieldInfo := #[]) : ClassFile where
  minorVersion := 0
  majorVersion := 65
  constantPool := pool
  accessFlags := fl
  thisClass := this
  superClass := sup
  interfaces := ifs
  fields := fds
  methods := ms
  attributes := attrs
def plain (name : String) (sup : Option ClassId) : Class where
  name := name
  kind := .ordinary
  loader := none
  accessFlags := 33
  super := sup
  interfaces := #[]
  cf := none
  fields := #[]
  methods := #[]
  instanceTypes := #[]
  staticTypes := #[]
  resolved := #[]
  callSites := []
  init := .initialized
  statics := none
  mirror := none

def pool0 : Array CpInfo := pool [(5, u "<init>"), (0, u "()V"), (1, .class_ 10), (1, u "java/lang/Object")] 113

def k0c0 : Code := { maxStack := 0, maxLocals := 1, code := object_method_1_code, exceptionTable := #[], attributes := #[] }
def k0m0 : Method := { name := "<init>", desc := "()V", sig := { parameters := [], returnType := none }, accessFlags := 1, code := some k0c0 }
/-- java/lang/Object -/
def k0 : Class := { plain "java/lang/Object" none with
  accessFlags := 33
  interfaces := #[]
  cf := some (fileOf pool0 8 #[] #[{ accessFlags := 1, nameIndex := 5, descriptorIndex := 6, attributes := #[] }] 33 0 #[] #[])
  fields := #[]
  methods := #[k0m0]
  instanceTypes := #[]
  staticTypes := #[]
  resolved := Array.replicate 124 none
  statics := none }

def pool1 : Array CpInfo := pool [(2, .class_ 4), (1, u "java/lang/Object"), (0, u "<init>"), (0, u "()V"), (0, .class_ 8), (0, u "java/lang/String"), (0, .methodref 7 10), (0, .nameAndType 5 11), (0, u "([C)V"), (0, .class_ 13), (0, u "com/example/hearsay/hearsay/community/Stamp"), (0, .methodref 12 15), (0, .nameAndType 5 16), (0, u "(Ljava/lang/String;JJ)V"), (0, .methodref 12 18), (0, .nameAndType 19 20), (0, u "isBehind"), (0, u "(Lcom/example/hearsay/hearsay/community/Stamp;)Z"), (0, .class_ 22), (0, u "com/example/hearsay/hearsay/community/StampIsBehindPinLaw"), (2, u "law"), (0, u "(JJJJII)Z")] 3

def k1m0 : Method := { name := "<init>", desc := "()V", sig := { parameters := [], returnType := none }, accessFlags := 1, code := none }
def k1c1 : Code := { maxStack := 7, maxLocals := 26, code := code, exceptionTable := #[], attributes := #[] }
def k1m1 : Method := { name := "law", desc := "(JJJJII)Z", sig := { parameters := [.long, .long, .long, .long, .int, .int], returnType := some .boolean }, accessFlags := 9, code := some k1c1 }
/-- com/example/hearsay/hearsay/community/StampIsBehindPinLaw -/
def k1 : Class := { plain "com/example/hearsay/hearsay/community/StampIsBehindPinLaw" (some 0) with
  accessFlags := 49
  interfaces := #[]
  cf := some (fileOf pool1 21 #[] #[{ accessFlags := 1, nameIndex := 5, descriptorIndex := 6, attributes := #[] }, { accessFlags := 9, nameIndex := 25, descriptorIndex := 26, attributes := #[] }] 49 2 #[] #[])
  fields := #[]
  methods := #[k1m0, k1m1]
  instanceTypes := #[]
  staticTypes := #[]
  resolved := Array.replicate 30 none
  statics := none }

def pool2 : Array CpInfo := pool [(1, .class_ 2), (0, u "java/io/Serializable"), (0, .class_ 4), (0, u "java/lang/Object")] 2

/-- java/io/Serializable -/
def k2 : Class := { plain "java/io/Serializable" (some 0) with
  accessFlags := 1537
  interfaces := #[]
  cf := some (fileOf pool2 1 #[] #[] 1537 3 #[] #[])
  fields := #[]
  methods := #[]
  instanceTypes := #[]
  staticTypes := #[]
  resolved := Array.replicate 7 none
  statics := none }

def pool3 : Array CpInfo := pool [(1, .class_ 2), (0, u "java/lang/Comparable"), (0, .class_ 4), (0, u "java/lang/Object")] 7

/-- java/lang/Comparable -/
def k3 : Class := { plain "java/lang/Comparable" (some 0) with
  accessFlags := 1537
  interfaces := #[]
  cf := some (fileOf pool3 1 #[] #[] 1537 3 #[] #[])
  fields := #[]
  methods := #[]
  instanceTypes := #[]
  staticTypes := #[]
  resolved := Array.replicate 12 none
  statics := none }

def pool4 : Array CpInfo := pool [(2, .class_ 4), (1, u "java/lang/CharSequence"), (42, .class_ 48), (0, u "java/lang/CharSequence$1CodePointIterator"), (10, .class_ 60), (0, u "java/lang/CharSequence$1CharIterator"), (5, .class_ 67), (0, u "java/lang/Object")] 63

/-- java/lang/CharSequence -/
def k4 : Class := { plain "java/lang/CharSequence" (some 0) with
  accessFlags := 1537
  interfaces := #[]
  cf := some (fileOf pool4 2 #[.nestMembers #[47, 59]] #[] 1537 66 #[] #[])
  fields := #[]
  methods := #[]
  instanceTypes := #[]
  staticTypes := #[]
  resolved := Array.replicate 131 none
  statics := none }

def pool5 : Array CpInfo := pool [(1, .class_ 2), (0, u "java/lang/constant/Constable"), (0, .class_ 4), (0, u "java/lang/Object")] 6

/-- java/lang/constant/Constable -/
def k5 : Class := { plain "java/lang/constant/Constable" (some 0) with
  accessFlags := 1537
  interfaces := #[]
  cf := some (fileOf pool5 1 #[] #[] 1537 3 #[] #[])
  fields := #[]
  methods := #[]
  instanceTypes := #[]
  staticTypes := #[]
  resolved := Array.replicate 11 none
  statics := none }

def pool6 : Array CpInfo := pool [(1, .class_ 2), (0, u "java/lang/constant/ConstantDesc"), (0, .class_ 4), (0, u "java/lang/Object")] 32

/-- java/lang/constant/ConstantDesc -/
def k6 : Class := { plain "java/lang/constant/ConstantDesc" (some 0) with
  accessFlags := 1537
  interfaces := #[]
  cf := some (fileOf pool6 1 #[] #[] 1537 3 #[] #[])
  fields := #[]
  methods := #[]
  instanceTypes := #[]
  staticTypes := #[]
  resolved := Array.replicate 37 none
  statics := none }

def pool7 : Array CpInfo := pool [(1, .methodref 2 3), (0, .class_ 4), (0, .nameAndType 5 6), (0, u "java/lang/Object"), (0, u "<init>"), (0, u "()V"), (2, .fieldref 10 11), (0, .class_ 12), (0, .nameAndType 13 14), (0, u "java/lang/String"), (0, u "value"), (0, u "[B"), (0, .fieldref 10 16), (0, .nameAndType 17 18), (0, u "coder"), (0, u "B"), (2, u "hash"), (0, u "I"), (2, u "hashIsZero"), (0, u "Z"), (0, .methodref 10 28), (0, .nameAndType 5 29), (0, u "([CIILjava/lang/Void;)V"), (8, .fieldref 10 39), (0, .nameAndType 40 26), (0, u "COMPACT_STRINGS"), (1, .class_ 44), (1, u "java/lang/StringUTF16"), (0, u "compress"), (1, .methodref 42 48), (0, .nameAndType 49 50), (0, u "coderFromArrayLen"), (0, u "([BI)B"), (126, .methodref 42 178), (0, .nameAndType 45 179), (0, u "([CII)[B"), (395, .class_ 576), (0, u "java/lang/CharSequence"), (22, u "CASE_INSENSITIVE_ORDER"), (0, u "Ljava/util/Comparator;"), (409, u "([C)V"), (90, u "serialPersistentFields"), (0, u "[Ljava/io/ObjectStreamField;"), (0, .class_ 1104), (0, u "java/lang/String$CaseInsensitiveComparator"), (1, .class_ 1107), (0, u "java/io/Serializable"), (0, .class_ 1109), (0, u "java/lang/Comparable"), (0, .class_ 1111), (0, u "java/lang/constant/Constable"), (0, .class_ 1113), (0, u "java/lang/constant/ConstantDesc"), (2, u "serialVersionUID"), (0, u "J"), (3, u "REPL"), (0, u "C"), (2, u "LATIN1"), (1, u "UTF16")] 323

def k7m0 : Method := { name := "<init>", desc := "()V", sig := { parameters := [], returnType := none }, accessFlags := 1, code := none }
def k7c1 : Code := { maxStack := 5, maxLocals := 2, code := jdk_42_method_3_code, exceptionTable := #[], attributes := #[] }
def k7m1 : Method := { name := "<init>", desc := "([C)V", sig := { parameters := [(.array .char)], returnType := none }, accessFlags := 1, code := some k7c1 }
def k7c2 : Code := { maxStack := 4, maxLocals := 6, code := jdk_42_method_149_code, exceptionTable := #[], attributes := #[] }
def k7m2 : Method := { name := "<init>", desc := "([CIILjava/lang/Void;)V", sig := { parameters := [(.array .char), .int, .int, (.object "java/lang/Void")], returnType := none }, accessFlags := 2, code := some k7c2 }
/-- java/lang/String -/
def k7 : Class := { plain "java/lang/String" (some 0) with
  accessFlags := 49
  interfaces := #[2, 3, 4, 5, 6]
  cf := some (fileOf pool7 10 #[.nestMembers #[1103]] #[{ accessFlags := 1, nameIndex := 5, descriptorIndex := 6, attributes := #[] }, { accessFlags := 1, nameIndex := 5, descriptorIndex := 1010, attributes := #[] }, { accessFlags := 2, nameIndex := 5, descriptorIndex := 29, attributes := #[] }] 49 2 #[1106, 1108, 575, 1110, 1112] #[{ accessFlags := 18, nameIndex := 13, descriptorIndex := 14, attributes := #[] }, { accessFlags := 18, nameIndex := 17, descriptorIndex := 18, attributes := #[] }, { accessFlags := 2, nameIndex := 21, descriptorIndex := 22, attributes := #[] }, { accessFlags := 2, nameIndex := 25, descriptorIndex := 26, attributes := #[] }, { accessFlags := 26, nameIndex := 1116, descriptorIndex := 1117, attributes := #[] }, { accessFlags := 24, nameIndex := 40, descriptorIndex := 26, attributes := #[] }, { accessFlags := 26, nameIndex := 1101, descriptorIndex := 1102, attributes := #[] }, { accessFlags := 26, nameIndex := 1121, descriptorIndex := 1122, attributes := #[] }, { accessFlags := 25, nameIndex := 599, descriptorIndex := 600, attributes := #[] }, { accessFlags := 24, nameIndex := 1125, descriptorIndex := 18, attributes := #[] }, { accessFlags := 24, nameIndex := 1127, descriptorIndex := 18, attributes := #[] }])
  fields := #[{ name := "value", type := (.array .byte), accessFlags := 18, slot := 0, constantValue := 0 }, { name := "coder", type := .byte, accessFlags := 18, slot := 1, constantValue := 0 }, { name := "hash", type := .int, accessFlags := 2, slot := 2, constantValue := 0 }, { name := "hashIsZero", type := .boolean, accessFlags := 2, slot := 3, constantValue := 0 }, { name := "serialVersionUID", type := .long, accessFlags := 26, slot := 0, constantValue := 0 }, { name := "COMPACT_STRINGS", type := .boolean, accessFlags := 24, slot := 1, constantValue := 0 }, { name := "serialPersistentFields", type := (.array (.object "java/io/ObjectStreamField")), accessFlags := 26, slot := 2, constantValue := 0 }, { name := "REPL", type := .char, accessFlags := 26, slot := 3, constantValue := 0 }, { name := "CASE_INSENSITIVE_ORDER", type := (.object "java/util/Comparator"), accessFlags := 25, slot := 4, constantValue := 0 }, { name := "LATIN1", type := .byte, accessFlags := 24, slot := 5, constantValue := 0 }, { name := "UTF16", type := .byte, accessFlags := 24, slot := 6, constantValue := 0 }]
  methods := #[k7m0, k7m1, k7m2]
  instanceTypes := #[(.array .byte), .byte, .int, .boolean]
  staticTypes := #[.long, .boolean, (.array (.object "java/io/ObjectStreamField")), .char, (.object "java/util/Comparator"), .byte, .byte]
  resolved := Array.replicate 1451 none
  statics := some 0 }

def pool8 : Array CpInfo := pool [(6, .class_ 8), (1, u "java/lang/Object"), (0, u "<init>"), (0, u "()V"), (1, .class_ 14), (1, u "java/lang/StringUTF16"), (31, u "$assertionsDisabled"), (0, u "Z"), (13, u "HI_BYTE_SHIFT"), (0, u "I"), (2, u "LO_BYTE_SHIFT"), (49, .methodref 12 116), (0, .nameAndType 117 118), (0, u "compress"), (0, u "([CI[BII)I"), (3, u "([CII)[B"), (138, u "coderFromArrayLen"), (0, u "([BI)B"), (106, .class_ 371), (1, u "java/lang/StringUTF16$LinesSpliterator"), (58, u "MAX_LENGTH"), (196, .class_ 628), (0, u "java/lang/StringUTF16$CodePointsSpliterator"), (0, .class_ 630), (0, u "java/lang/StringUTF16$CharsSpliterator")] 4

def k8m0 : Method := { name := "<init>", desc := "()V", sig := { parameters := [], returnType := none }, accessFlags := 0, code := none }
def k8c1 : Code := { maxStack := 2, maxLocals := 2, code := jdk_52_method_15_code, exceptionTable := #[], attributes := #[] }
def k8m1 : Method := { name := "coderFromArrayLen", desc := "([BI)B", sig := { parameters := [(.array .byte), .int], returnType := some .byte }, accessFlags := 8, code := some k8c1 }
def k8c2 : Code := { maxStack := 5, maxLocals := 6, code := jdk_52_method_16_code, exceptionTable := #[], attributes := #[] }
def k8m2 : Method := { name := "compress", desc := "([CII)[B", sig := { parameters := [(.array .char), .int, .int], returnType := some (.array .byte) }, accessFlags := 9, code := some k8c2 }
def k8c3 : Code := { maxStack := 3, maxLocals := 7, code := jdk_52_method_21_code, exceptionTable := #[], attributes := #[] }
def k8m3 : Method := { name := "compress", desc := "([CI[BII)I", sig := { parameters := [(.array .char), .int, (.array .byte), .int, .int], returnType := some .int }, accessFlags := 9, code := some k8c3 }
/-- java/lang/StringUTF16 -/
def k8 : Class := { plain "java/lang/StringUTF16" (some 0) with
  accessFlags := 48
  interfaces := #[]
  cf := some (fileOf pool8 12 #[.nestMembers #[627, 629, 369]] #[{ accessFlags := 0, nameIndex := 9, descriptorIndex := 10, attributes := #[] }, { accessFlags := 8, nameIndex := 261, descriptorIndex := 262, attributes := #[] }, { accessFlags := 9, nameIndex := 117, descriptorIndex := 122, attributes := #[] }, { accessFlags := 9, nameIndex := 117, descriptorIndex := 118, attributes := #[] }] 48 6 #[] #[{ accessFlags := 26, nameIndex := 61, descriptorIndex := 62, attributes := #[] }, { accessFlags := 26, nameIndex := 65, descriptorIndex := 62, attributes := #[] }, { accessFlags := 24, nameIndex := 430, descriptorIndex := 62, attributes := #[] }, { accessFlags := 4120, nameIndex := 46, descriptorIndex := 47, attributes := #[] }])
  fields := #[{ name := "HI_BYTE_SHIFT", type := .int, accessFlags := 26, slot := 0, constantValue := 0 }, { name := "LO_BYTE_SHIFT", type := .int, accessFlags := 26, slot := 1, constantValue := 0 }, { name := "MAX_LENGTH", type := .int, accessFlags := 24, slot := 2, constantValue := 0 }, { name := "$assertionsDisabled", type := .boolean, accessFlags := 4120, slot := 3, constantValue := 0 }]
  methods := #[k8m0, k8m1, k8m2, k8m3]
  instanceTypes := #[]
  staticTypes := #[.int, .int, .int, .boolean]
  resolved := Array.replicate 635 none
  statics := none }

def pool9 : Array CpInfo := pool [(1, .methodref 2 3), (0, .class_ 4), (0, .nameAndType 5 6), (0, u "java/lang/Object"), (0, u "<init>"), (0, u "()V"), (0, .class_ 8), (0, u "java/lang/Record")] 13

def k9c0 : Code := { maxStack := 1, maxLocals := 1, code := jdk_30_method_1_code, exceptionTable := #[], attributes := #[] }
def k9m0 : Method := { name := "<init>", desc := "()V", sig := { parameters := [], returnType := none }, accessFlags := 4, code := some k9c0 }
/-- java/lang/Record -/
def k9 : Class := { plain "java/lang/Record" (some 0) with
  accessFlags := 1057
  interfaces := #[]
  cf := some (fileOf pool9 7 #[] #[{ accessFlags := 4, nameIndex := 5, descriptorIndex := 6, attributes := #[] }] 1057 2 #[] #[])
  fields := #[]
  methods := #[k9m0]
  instanceTypes := #[]
  staticTypes := #[]
  resolved := Array.replicate 22 none
  statics := none }

def pool10 : Array CpInfo := pool [(1, .methodref 2 3), (0, .class_ 4), (0, .nameAndType 5 6), (0, u "java/lang/Record"), (0, u "<init>"), (0, u "()V"), (0, .fieldref 8 9), (0, .class_ 10), (0, .nameAndType 11 12), (0, u "com/example/hearsay/hearsay/community/Stamp"), (0, u "name"), (0, u "Ljava/lang/String;"), (0, .fieldref 8 14), (0, .nameAndType 15 16), (0, u "identity"), (0, u "J"), (0, .fieldref 8 18), (0, .nameAndType 19 16), (0, u "version"), (12, u "(Ljava/lang/String;JJ)V"), (19, u "isBehind"), (0, u "(Lcom/example/hearsay/hearsay/community/Stamp;)Z")] 25

def k10c0 : Code := { maxStack := 3, maxLocals := 6, code := prog_32_method_1_code, exceptionTable := #[], attributes := #[] }
def k10m0 : Method := { name := "<init>", desc := "(Ljava/lang/String;JJ)V", sig := { parameters := [(.object "java/lang/String"), .long, .long], returnType := none }, accessFlags := 1, code := some k10c0 }
def k10c1 : Code := { maxStack := 6, maxLocals := 2, code := prog_32_method_4_code, exceptionTable := #[], attributes := #[] }
def k10m1 : Method := { name := "isBehind", desc := "(Lcom/example/hearsay/hearsay/community/Stamp;)Z", sig := { parameters := [(.object "com/example/hearsay/hearsay/community/Stamp")], returnType := some .boolean }, accessFlags := 0, code := some k10c1 }
/-- com/example/hearsay/hearsay/community/Stamp -/
def k10 : Class := { plain "com/example/hearsay/hearsay/community/Stamp" (some 9) with
  accessFlags := 49
  interfaces := #[]
  cf := some (fileOf pool10 8 #[] #[{ accessFlags := 1, nameIndex := 5, descriptorIndex := 32, attributes := #[] }, { accessFlags := 0, nameIndex := 52, descriptorIndex := 53, attributes := #[] }] 49 2 #[] #[{ accessFlags := 18, nameIndex := 11, descriptorIndex := 12, attributes := #[] }, { accessFlags := 18, nameIndex := 15, descriptorIndex := 16, attributes := #[] }, { accessFlags := 18, nameIndex := 19, descriptorIndex := 16, attributes := #[] }])
  fields := #[{ name := "name", type := (.object "java/lang/String"), accessFlags := 18, slot := 0, constantValue := 0 }, { name := "identity", type := .long, accessFlags := 18, slot := 1, constantValue := 0 }, { name := "version", type := .long, accessFlags := 18, slot := 2, constantValue := 0 }]
  methods := #[k10m0, k10m1]
  instanceTypes := #[(.object "java/lang/String"), .long, .long]
  staticTypes := #[]
  resolved := Array.replicate 79 none
  statics := none }

def pool11 : Array CpInfo := pool [(4, .class_ 6), (1, u "java/lang/Object"), (0, u "<init>"), (0, u "()V"), (5, .class_ 16), (1, u "java/lang/StringLatin1"), (104, u "$assertionsDisabled"), (0, u "Z"), (98, .class_ 223), (1, u "java/lang/StringLatin1$LinesSpliterator"), (166, .class_ 391), (0, u "java/lang/StringLatin1$CharsSpliterator")] 3

def k11m0 : Method := { name := "<init>", desc := "()V", sig := { parameters := [], returnType := none }, accessFlags := 0, code := none }
/-- java/lang/StringLatin1 -/
def k11 : Class := { plain "java/lang/StringLatin1" (some 0) with
  accessFlags := 48
  interfaces := #[]
  cf := some (fileOf pool11 14 #[.nestMembers #[390, 221]] #[{ accessFlags := 0, nameIndex := 7, descriptorIndex := 8, attributes := #[] }] 48 4 #[] #[{ accessFlags := 4120, nameIndex := 121, descriptorIndex := 122, attributes := #[] }])
  fields := #[{ name := "$assertionsDisabled", type := .boolean, accessFlags := 4120, slot := 0, constantValue := 0 }]
  methods := #[k11m0]
  instanceTypes := #[]
  staticTypes := #[.boolean]
  resolved := Array.replicate 395 none
  statics := none }

def pool12 : Array CpInfo := pool [(2, .class_ 4), (1, u "java/lang/Object"), (0, u "<init>"), (0, u "()V"), (17, .class_ 26), (1, u "jdk/internal/util/Preconditions"), (28, .class_ 56), (0, u "jdk/internal/util/Preconditions$4"), (57, .class_ 115), (0, u "jdk/internal/util/Preconditions$1"), (7, u "SIOOBE_FORMATTER"), (0, u "Ljava/util/function/BiFunction;"), (0, .class_ 126), (0, u "jdk/internal/util/Preconditions$2"), (3, u "AIOOBE_FORMATTER"), (0, .class_ 132), (0, u "jdk/internal/util/Preconditions$3"), (3, u "IOOBE_FORMATTER")] 57

def k12m0 : Method := { name := "<init>", desc := "()V", sig := { parameters := [], returnType := none }, accessFlags := 1, code := none }
/-- jdk/internal/util/Preconditions -/
def k12 : Class := { plain "jdk/internal/util/Preconditions" (some 0) with
  accessFlags := 33
  interfaces := #[]
  cf := some (fileOf pool12 24 #[.nestMembers #[55, 131, 125, 114]] #[{ accessFlags := 1, nameIndex := 5, descriptorIndex := 6, attributes := #[] }] 33 2 #[] #[{ accessFlags := 25, nameIndex := 123, descriptorIndex := 124, attributes := #[] }, { accessFlags := 25, nameIndex := 130, descriptorIndex := 124, attributes := #[] }, { accessFlags := 25, nameIndex := 136, descriptorIndex := 124, attributes := #[] }])
  fields := #[{ name := "SIOOBE_FORMATTER", type := (.object "java/util/function/BiFunction"), accessFlags := 25, slot := 0, constantValue := 0 }, { name := "AIOOBE_FORMATTER", type := (.object "java/util/function/BiFunction"), accessFlags := 25, slot := 1, constantValue := 0 }, { name := "IOOBE_FORMATTER", type := (.object "java/util/function/BiFunction"), accessFlags := 25, slot := 2, constantValue := 0 }]
  methods := #[k12m0]
  instanceTypes := #[]
  staticTypes := #[(.object "java/util/function/BiFunction"), (.object "java/util/function/BiFunction"), (.object "java/util/function/BiFunction")]
  resolved := Array.replicate 194 none
  statics := some 1 }

def pool13 : Array CpInfo := pool [(9, u "<init>"), (6, .class_ 18), (1, u "java/lang/Object"), (0, u "()V"), (1, .class_ 23), (1, u "jdk/internal/util/ArraysSupport"), (0, u "LOG2_ARRAY_LONG_INDEX_SCALE"), (0, u "I"), (2, u "U"), (0, u "Ljdk/internal/misc/Unsafe;"), (8, u "BIG_ENDIAN"), (0, u "Z"), (8, u "LOG2_BYTE_BIT_SIZE"), (4, u "LOG2_ARRAY_INT_INDEX_SCALE"), (54, u "JLA"), (0, u "Ljdk/internal/access/JavaLangAccess;"), (11, u "LOG2_ARRAY_BOOLEAN_INDEX_SCALE"), (9, u "LOG2_ARRAY_BYTE_INDEX_SCALE"), (5, u "LOG2_ARRAY_CHAR_INDEX_SCALE"), (5, u "LOG2_ARRAY_SHORT_INDEX_SCALE"), (18, u "LOG2_ARRAY_FLOAT_INDEX_SCALE"), (24, u "LOG2_ARRAY_DOUBLE_INDEX_SCALE"), (89, u "T_BOOLEAN"), (2, u "T_CHAR"), (1, u "T_FLOAT"), (1, u "T_DOUBLE"), (1, u "T_BYTE"), (1, u "T_SHORT"), (1, u "T_INT"), (1, u "T_LONG"), (1, u "SOFT_MAX_ARRAY_LENGTH")] 83

def k13m0 : Method := { name := "<init>", desc := "()V", sig := { parameters := [], returnType := none }, accessFlags := 2, code := none }
/-- jdk/internal/util/ArraysSupport -/
def k13 : Class := { plain "jdk/internal/util/ArraysSupport" (some 0) with
  accessFlags := 33
  interfaces := #[]
  cf := some (fileOf pool13 21 #[] #[{ accessFlags := 2, nameIndex := 9, descriptorIndex := 19, attributes := #[] }] 33 16 #[] #[{ accessFlags := 24, nameIndex := 28, descriptorIndex := 29, attributes := #[] }, { accessFlags := 26, nameIndex := 38, descriptorIndex := 39, attributes := #[] }, { accessFlags := 25, nameIndex := 121, descriptorIndex := 25, attributes := #[] }, { accessFlags := 25, nameIndex := 131, descriptorIndex := 25, attributes := #[] }, { accessFlags := 25, nameIndex := 137, descriptorIndex := 25, attributes := #[] }, { accessFlags := 25, nameIndex := 143, descriptorIndex := 25, attributes := #[] }, { accessFlags := 25, nameIndex := 53, descriptorIndex := 25, attributes := #[] }, { accessFlags := 25, nameIndex := 24, descriptorIndex := 25, attributes := #[] }, { accessFlags := 25, nameIndex := 162, descriptorIndex := 25, attributes := #[] }, { accessFlags := 25, nameIndex := 187, descriptorIndex := 25, attributes := #[] }, { accessFlags := 26, nameIndex := 48, descriptorIndex := 25, attributes := #[] }, { accessFlags := 25, nameIndex := 277, descriptorIndex := 25, attributes := #[] }, { accessFlags := 25, nameIndex := 280, descriptorIndex := 25, attributes := #[] }, { accessFlags := 25, nameIndex := 282, descriptorIndex := 25, attributes := #[] }, { accessFlags := 25, nameIndex := 284, descriptorIndex := 25, attributes := #[] }, { accessFlags := 25, nameIndex := 286, descriptorIndex := 25, attributes := #[] }, { accessFlags := 25, nameIndex := 288, descriptorIndex := 25, attributes := #[] }, { accessFlags := 25, nameIndex := 290, descriptorIndex := 25, attributes := #[] }, { accessFlags := 25, nameIndex := 292, descriptorIndex := 25, attributes := #[] }, { accessFlags := 26, nameIndex := 108, descriptorIndex := 109, attributes := #[] }, { accessFlags := 25, nameIndex := 294, descriptorIndex := 25, attributes := #[] }])
  fields := #[{ name := "U", type := (.object "jdk/internal/misc/Unsafe"), accessFlags := 24, slot := 0, constantValue := 0 }, { name := "BIG_ENDIAN", type := .boolean, accessFlags := 26, slot := 1, constantValue := 0 }, { name := "LOG2_ARRAY_BOOLEAN_INDEX_SCALE", type := .int, accessFlags := 25, slot := 2, constantValue := 0 }, { name := "LOG2_ARRAY_BYTE_INDEX_SCALE", type := .int, accessFlags := 25, slot := 3, constantValue := 0 }, { name := "LOG2_ARRAY_CHAR_INDEX_SCALE", type := .int, accessFlags := 25, slot := 4, constantValue := 0 }, { name := "LOG2_ARRAY_SHORT_INDEX_SCALE", type := .int, accessFlags := 25, slot := 5, constantValue := 0 }, { name := "LOG2_ARRAY_INT_INDEX_SCALE", type := .int, accessFlags := 25, slot := 6, constantValue := 0 }, { name := "LOG2_ARRAY_LONG_INDEX_SCALE", type := .int, accessFlags := 25, slot := 7, constantValue := 0 }, { name := "LOG2_ARRAY_FLOAT_INDEX_SCALE", type := .int, accessFlags := 25, slot := 8, constantValue := 0 }, { name := "LOG2_ARRAY_DOUBLE_INDEX_SCALE", type := .int, accessFlags := 25, slot := 9, constantValue := 0 }, { name := "LOG2_BYTE_BIT_SIZE", type := .int, accessFlags := 26, slot := 10, constantValue := 0 }, { name := "T_BOOLEAN", type := .int, accessFlags := 25, slot := 11, constantValue := 0 }, { name := "T_CHAR", type := .int, accessFlags := 25, slot := 12, constantValue := 0 }, { name := "T_FLOAT", type := .int, accessFlags := 25, slot := 13, constantValue := 0 }, { name := "T_DOUBLE", type := .int, accessFlags := 25, slot := 14, constantValue := 0 }, { name := "T_BYTE", type := .int, accessFlags := 25, slot := 15, constantValue := 0 }, { name := "T_SHORT", type := .int, accessFlags := 25, slot := 16, constantValue := 0 }, { name := "T_INT", type := .int, accessFlags := 25, slot := 17, constantValue := 0 }, { name := "T_LONG", type := .int, accessFlags := 25, slot := 18, constantValue := 0 }, { name := "JLA", type := (.object "jdk/internal/access/JavaLangAccess"), accessFlags := 26, slot := 19, constantValue := 0 }, { name := "SOFT_MAX_ARRAY_LENGTH", type := .int, accessFlags := 25, slot := 20, constantValue := 0 }]
  methods := #[k13m0]
  instanceTypes := #[]
  staticTypes := #[(.object "jdk/internal/misc/Unsafe"), .boolean, .int, .int, .int, .int, .int, .int, .int, .int, .int, .int, .int, .int, .int, .int, .int, .int, .int, (.object "jdk/internal/access/JavaLangAccess"), .int]
  resolved := Array.replicate 378 none
  statics := none }

def pool14 : Array CpInfo := pool [(1, u "java/lang/Cloneable"), (0, .class_ 1), (0, u "java/lang/Object"), (0, .class_ 3)] 3

/-- java/lang/Cloneable -/
def k14 : Class := { plain "java/lang/Cloneable" (some 0) with
  accessFlags := 1537
  interfaces := #[]
  cf := some (fileOf pool14 2 #[] #[] 1537 4 #[] #[])
  fields := #[]
  methods := #[]
  instanceTypes := #[]
  staticTypes := #[]
  resolved := Array.replicate 8 none
  statics := none }

/-- the primitive byte -/
def k15 : Class := { plain "byte" none with kind := .primitive 'B', accessFlags := 0x411 }
/-- [B -/
def k16 : Class := { plain "[B" (some 0) with kind := .array 15 .byte, interfaces := #[14, 2], accessFlags := 1041 }

/-- the primitive char -/
def k17 : Class := { plain "char" none with kind := .primitive 'C', accessFlags := 0x411 }
/-- [C -/
def k18 : Class := { plain "[C" (some 0) with kind := .array 17 .char, interfaces := #[14, 2], accessFlags := 1041 }

/-- the primitive int -/
def k19 : Class := { plain "int" none with kind := .primitive 'I', accessFlags := 0x411 }
/-- [I -/
def k20 : Class := { plain "[I" (some 0) with kind := .array 19 .int, interfaces := #[14, 2], accessFlags := 1041 }

def heap : Heap := #[{ cls := 7, slots := #[.long 0, .int 1, .null, .int 0, .null, .int 0, .int 0], vm := .statics 7 },
  { cls := 12, slots := #[.null, .null, .null], vm := .statics 12 }]
def classes : Array Class := #[k0, k1, k2, k3, k4, k5, k6, k7, k8, k9, k10, k11, k12, k13, k14, k15, k16, k17, k18, k19, k20]
def interned : List (Array UInt16 × Addr) := []
def slotsUsed : Nat := 10
def theMethod : MethodId := ⟨1, 1⟩
def args0 : Array Value := #[.long 5, .long 6, .long 7, .long 8, .int 3, .int 1684234849]
def aboutOver (below : List Frame) : State where
  vm := { classes := classes, interned := interned.toArray }
  heap := heap
  slotsUsed := slotsUsed
  threads := #[{ frames := .invoking theMethod args0 :: below }]
def below0 : List Frame := [.native { method := ⟨0, 0⟩, args := #[] }]
def about1 : State := aboutOver below0
def p0 : Program := .bare "" "" ""
def e0 : Env := launch0.env 0 0 0
theorem w_frames : about1.frames = Frame.invoking theMethod args0 :: below0 := rfl
set_option maxRecDepth 65536 in
theorem w_args : argsFit about1.vm theMethod args0 = true := by decide +kernel
set_option maxRecDepth 65536 in
theorem w_heap : heapFits about1 = true := by decide +kernel
set_option maxRecDepth 65536 in
theorem w_runnable : about1.curStatus? = some .runnable := by decide +kernel
set_option maxRecDepth 65536 in
theorem w_alone : about1.alone = true := by decide +kernel
set_option maxRecDepth 65536 in
theorem w_named : about1.methodNamed? x = some theMethod := by decide +kernel
set_option maxRecDepth 65536 in
theorem w_hears : about1.hears theMethod below0 = true := by decide +kernel
set_option maxRecDepth 65536 in
theorem w_ripe : about1.ripe theMethod args0 below0 = true := by decide +kernel
theorem w_running : about1.status = .running := rfl
set_option maxRecDepth 65536 in
theorem w_room : about1.hasRoom e0.platform room_1 = true :=
  launch0.hasRoom_least _ room_1 (by decide +kernel) (by decide +kernel) (by decide +kernel) (by decide +kernel) (by decide +kernel) (by decide +kernel)
theorem allAtoms_all (ts : List Jvm.Cond) (a : Array Jvm.Value) (st : Jvm.State) : (allAtoms ts).before a st = ts.all (fun c => c.before a st) := by
  induction ts with
  | nil => rfl
  | cons c t ih =>
    show (Jvm.Cond.and c (allAtoms t)).before a st = _
    rw [Jvm.Cond.before_and, ih, List.all_cons]
def words1 : List Jvm.Cond := Jvm.Cond.code x code maxLocals ret :: tables_1
/-- a 'code' word, met by the world's own term for the bytes: nothing is compared byte by byte -/
theorem code_word {y : MethodName} {bytes : ByteArray} {mx : Nat} {rt : Option FieldType} {a : Array Value} {s : State} {m : MethodId} {meth : Method} {c : Code} (h1 : s.methodNamed? y = some m) (h2 : s.vm.method? m = some meth) (h3 : meth.code = some c) (h4 : c.code = bytes)
    (h5 : (c.maxLocals == mx && c.exceptionTable.isEmpty && decide (c.maxStack ≤ mostOperands) && decide (meth.sig.returnType = rt) && !meth.locks && decide (parseMethodDescriptor y.desc = some meth.sig)) = true) : (Jvm.Cond.code y bytes mx rt).before a s = true := by
  simp only [Bool.and_eq_true, beq_iff_eq, Bool.not_eq_true', decide_eq_true_eq] at h5
  obtain ⟨⟨⟨⟨⟨g1, g2⟩, g3⟩, g4⟩, g5⟩, g6⟩ := h5
  simp [Cond.before, Cond.holds, Cond.value, h1, h2, h3, h4, g1, g2, g3, g4, g5, g6]
def isCode : Jvm.Cond → Bool
  | .code _ _ _ _ => true
  | _ => false
theorem all_split {L : List Jvm.Cond} {P : Jvm.Cond → Bool} (h1 : L.all (fun c => isCode c || P c) = true) (h2 : ∀ c ∈ L.filter isCode, P c = true) : L.all P = true := by
  refine List.all_eq_true.mpr fun c hc => ?_
  have h := List.all_eq_true.mp h1 c hc
  rcases Bool.eq_false_or_eq_true (isCode c) with hi | hi
  · exact h2 c (List.mem_filter.mpr ⟨hc, hi⟩)
  · simpa [hi] using h
set_option maxRecDepth 65536 in
theorem w_c0 : (Jvm.Cond.code x code maxLocals ret).before args0 about1 = true := code_word (m := ⟨1, 1⟩) (meth := k1m1) (c := k1c1) (by decide +kernel) rfl rfl rfl (by decide +kernel)
set_option maxRecDepth 65536 in
theorem w_c1 : (Jvm.Cond.code ({ cls := "java/lang/String", name := "<init>", desc := "([C)V" } : Jvm.MethodName) jdk_42_method_3_code (2 : Nat) (Option.none : Option Jvm.ClassFile.FieldType)).before args0 about1 = true := code_word (m := ⟨7, 1⟩) (meth := k7m1) (c := k7c1) (by decide +kernel) rfl rfl rfl (by decide +kernel)
set_option maxRecDepth 65536 in
theorem w_c2 : (Jvm.Cond.code ({ cls := "java/lang/String", name := "<init>", desc := "([CIILjava/lang/Void;)V" } : Jvm.MethodName) jdk_42_method_149_code (6 : Nat) (Option.none : Option Jvm.ClassFile.FieldType)).before args0 about1 = true := code_word (m := ⟨7, 2⟩) (meth := k7m2) (c := k7c2) (by decide +kernel) rfl rfl rfl (by decide +kernel)
set_option maxRecDepth 65536 in
theorem w_c3 : (Jvm.Cond.code ({ cls := "java/lang/Object", name := "<init>", desc := "()V" } : Jvm.MethodName) object_method_1_code (1 : Nat) (Option.none : Option Jvm.ClassFile.FieldType)).before args0 about1 = true := code_word (m := ⟨0, 0⟩) (meth := k0m0) (c := k0c0) (by decide +kernel) rfl rfl rfl (by decide +kernel)
set_option maxRecDepth 65536 in
theorem w_c4 : (Jvm.Cond.code ({ cls := "java/lang/StringUTF16", name := "compress", desc := "([CII)[B" } : Jvm.MethodName) jdk_52_method_16_code (6 : Nat) (Option.some (Jvm.ClassFile.FieldType.array Jvm.ClassFile.FieldType.byte))).before args0 about1 = true := code_word (m := ⟨8, 2⟩) (meth := k8m2) (c := k8c2) (by decide +kernel) rfl rfl rfl (by decide +kernel)
set_option maxRecDepth 65536 in
theorem w_c5 : (Jvm.Cond.code ({ cls := "java/lang/StringUTF16", name := "compress", desc := "([CI[BII)I" } : Jvm.MethodName) jdk_52_method_21_code (7 : Nat) (Option.some Jvm.ClassFile.FieldType.int)).before args0 about1 = true := code_word (m := ⟨8, 3⟩) (meth := k8m3) (c := k8c3) (by decide +kernel) rfl rfl rfl (by decide +kernel)
set_option maxRecDepth 65536 in
theorem w_c6 : (Jvm.Cond.code ({ cls := "java/lang/StringUTF16", name := "coderFromArrayLen", desc := "([BI)B" } : Jvm.MethodName) jdk_52_method_15_code (2 : Nat) (Option.some Jvm.ClassFile.FieldType.byte)).before args0 about1 = true := code_word (m := ⟨8, 1⟩) (meth := k8m1) (c := k8c1) (by decide +kernel) rfl rfl rfl (by decide +kernel)
set_option maxRecDepth 65536 in
theorem w_c7 : (Jvm.Cond.code ({ cls := "com/example/hearsay/hearsay/community/Stamp", name := "<init>", desc := "(Ljava/lang/String;JJ)V" } : Jvm.MethodName) prog_32_method_1_code (6 : Nat) (Option.none : Option Jvm.ClassFile.FieldType)).before args0 about1 = true := code_word (m := ⟨10, 0⟩) (meth := k10m0) (c := k10c0) (by decide +kernel) rfl rfl rfl (by decide +kernel)
set_option maxRecDepth 65536 in
theorem w_c8 : (Jvm.Cond.code ({ cls := "java/lang/Record", name := "<init>", desc := "()V" } : Jvm.MethodName) jdk_30_method_1_code (1 : Nat) (Option.none : Option Jvm.ClassFile.FieldType)).before args0 about1 = true := code_word (m := ⟨9, 0⟩) (meth := k9m0) (c := k9c0) (by decide +kernel) rfl rfl rfl (by decide +kernel)
set_option maxRecDepth 65536 in
theorem w_c9 : (Jvm.Cond.code ({ cls := "com/example/hearsay/hearsay/community/Stamp", name := "isBehind", desc := "(Lcom/example/hearsay/hearsay/community/Stamp;)Z" } : Jvm.MethodName) prog_32_method_4_code (2 : Nat) (Option.some Jvm.ClassFile.FieldType.boolean)).before args0 about1 = true := code_word (m := ⟨10, 1⟩) (meth := k10m1) (c := k10c1) (by decide +kernel) rfl rfl rfl (by decide +kernel)
def codes1 : List Jvm.Cond := [Jvm.Cond.code x code maxLocals ret, Jvm.Cond.code ({ cls := "java/lang/String", name := "<init>", desc := "([C)V" } : Jvm.MethodName) jdk_42_method_3_code (2 : Nat) (Option.none : Option Jvm.ClassFile.FieldType), Jvm.Cond.code ({ cls := "java/lang/String", name := "<init>", desc := "([CIILjava/lang/Void;)V" } : Jvm.MethodName) jdk_42_method_149_code (6 : Nat) (Option.none : Option Jvm.ClassFile.FieldType), Jvm.Cond.code ({ cls := "java/lang/Object", name := "<init>", desc := "()V" } : Jvm.MethodName) object_method_1_code (1 : Nat) (Option.none : Option Jvm.ClassFile.FieldType), Jvm.Cond.code ({ cls := "java/lang/StringUTF16", name := "compress", desc := "([CII)[B" } : Jvm.MethodName) jdk_52_method_16_code (6 : Nat) (Option.some (Jvm.ClassFile.FieldType.array Jvm.ClassFile.FieldType.byte)), Jvm.Cond.code ({ cls := "java/lang/StringUTF16", name := "compress", desc := "([CI[BII)I" } : Jvm.MethodName) jdk_52_method_21_code (7 : Nat) (Option.some Jvm.ClassFile.FieldType.int), Jvm.Cond.code ({ cls := "java/lang/StringUTF16", name := "coderFromArrayLen", desc := "([BI)B" } : Jvm.MethodName) jdk_52_method_15_code (2 : Nat) (Option.some Jvm.ClassFile.FieldType.byte), Jvm.Cond.code ({ cls := "com/example/hearsay/hearsay/community/Stamp", name := "<init>", desc := "(Ljava/lang/String;JJ)V" } : Jvm.MethodName) prog_32_method_1_code (6 : Nat) (Option.none : Option Jvm.ClassFile.FieldType), Jvm.Cond.code ({ cls := "java/lang/Record", name := "<init>", desc := "()V" } : Jvm.MethodName) jdk_30_method_1_code (1 : Nat) (Option.none : Option Jvm.ClassFile.FieldType), Jvm.Cond.code ({ cls := "com/example/hearsay/hearsay/community/Stamp", name := "isBehind", desc := "(Lcom/example/hearsay/hearsay/community/Stamp;)Z" } : Jvm.MethodName) prog_32_method_4_code (2 : Nat) (Option.some Jvm.ClassFile.FieldType.boolean)]
set_option maxRecDepth 65536 in
theorem codes_eq : words1.filter isCode = codes1 := rfl
theorem w_codes : ∀ c ∈ words1.filter isCode, c.before args0 about1 = true := by
  rw [codes_eq]
  intro c hc
  simp only [codes1, List.mem_cons, List.not_mem_nil, or_false] at hc
  rcases hc with rfl | rfl | rfl | rfl | rfl | rfl | rfl | rfl | rfl | rfl
  · exact w_c0
  · exact w_c1
  · exact w_c2
  · exact w_c3
  · exact w_c4
  · exact w_c5
  · exact w_c6
  · exact w_c7
  · exact w_c8
  · exact w_c9
set_option maxRecDepth 65536 in
theorem w_t1 : (words1.take 24).all (fun c => isCode c || c.before args0 about1) = true := by decide +kernel
set_option maxRecDepth 65536 in
theorem w_t2 : ((words1.drop 24).take 24).all (fun c => isCode c || c.before args0 about1) = true := by decide +kernel
set_option maxRecDepth 65536 in
theorem w_t3 : ((words1.drop 24).drop 24).all (fun c => isCode c || c.before args0 about1) = true := by decide +kernel
theorem w_tables : (allAtoms (Jvm.Cond.code x code maxLocals ret :: tables_1)).before args0 about1 = true := by
  rw [allAtoms_all]
  show words1.all (fun c => c.before args0 about1) = true
  refine all_split ?_ w_codes
  rw [← List.take_append_drop 24 words1, List.all_append, w_t1, ← List.take_append_drop 24 (words1.drop 24), List.all_append, w_t2, w_t3]
  rfl
set_option maxRecDepth 65536 in
theorem w_rest : rest_1_c.before args0 about1 = true := by decide +kernel
set_option maxRecDepth 65536 in
theorem w_case : (Jvm.Cond.and given_1 narrow_1).before args0 about1 = true := by decide +kernel
theorem w_applies : (headSpec (Jvm.Cond.code x code maxLocals ret :: tables_1) room_1).applies x e0.platform about1 = true :=
  (Spec.applies_iff w_frames).mpr ⟨w_running, w_runnable, w_alone, w_named, w_hears, w_ripe, w_room, w_tables⟩
theorem atStart : AtStart classFile x code maxLocals ret World_1 tables_1 room_1 Calls_1 rest_1 Pre_1 launch0 p0 e0 about1 theMethod args0 below0 :=
  ⟨lists_1, trivial, launch0.admits_env _ _ _, launch0.least_env, fairChoices_fair.cas, fairChoices_fair.clock, w_frames, w_args, w_heap, w_applies, trivial, w_rest, w_case⟩
end start1
theorem witness_1 : WitnessClaimed_1 := ⟨start1.p0, start1.e0, start1.about1, start1.theMethod, start1.args0, start1.below0, start1.atStart⟩
end Jvm.Pilot.@@N@@
