import JvmDerived
import JvmDerived.Pilot.@@N@@Statement
import JvmDerived.Pilot.@@N@@Code
set_option linter.unusedVariables false
set_option linter.unusedSimpArgs false
/- laws to paste: Road.backV (cut by pick.py; bodies as the Statement names them) -/
namespace Jvm.Pilot.@@N@@
namespace StrChars
open Jvm Sem ClassFile Op Lib Jvm.Stand Jvm.Free.XT Jvm.Free.ALB Jvm.Free.JM Jvm.Free
open Jvm.Lib.Cold (StaticIs)
/-- a char array whose places are chars -/
def Ch (a : Addr) (A : Cell) (U : State) : Prop := Arr .char a A U ∧ Typed .char A
theorem Ch.mv {a : Addr} {A : Cell} {U U' : State} (h : Ch a A U) (hal : U.vm.Alike U'.vm) (hh : U'.heap = U.heap) : Ch a A U' := ⟨h.1.mv hal hh, h.2⟩
theorem Ch.keep {a : Addr} {A : Cell} {U U' : State} (h : Ch a A U) (hal : U.vm.Alike U'.vm) (hk : U'.heap[a]? = some A) : Ch a A U' := ⟨h.1.keep hal hk, h.2⟩
/-- what place i of a char[]'s cell holds -/
def cv (A : Cell) (i : Nat) : Int32 := match A.slots[i]? with | some (.int x) => x | _ => 0
theorem Ch.get {a : Addr} {A : Cell} {U : State} (h : Ch a A U) {i : Nat} (hi : i < A.slots.size) : A.slots[i]? = some (.int (cv A i)) := by
  have e := Array.getElem?_eq_getElem hi
  have f := h.2 i _ e
  unfold cv; rw [e]
  generalize A.slots[i] = v at f
  cases v <;> simp [fits] at f ⊢
/-- the byte that i2b leaves of a char -/
def lo8 (x : Int32) : Int32 := x.toInt8.toInt32
theorem fits_lo8 (y : Int32) : fits .byte (.int (lo8 y)) = true := by
  have h1 := y.toInt8.le_toInt
  have h2 := y.toInt8.toInt_lt
  simp only [lo8, fits, Bool.and_eq_true, decide_eq_true_eq, Int32.le_iff_toInt_le, Int8.toInt_toInt32, show (-128 : Int32).toInt = -128 from by decide, show (127 : Int32).toInt = 127 from by decide]
  omega
/-- A' is A but that each place j of lo .. hi - 1 holds f j -/
def Laid (A A' : Cell) (lo hi : Nat) (f : Nat → Value) : Prop := A'.cls = A.cls ∧ A'.vm = A.vm ∧ A'.slots.size = A.slots.size ∧ ∀ i, A'.slots[i]? = if lo ≤ i ∧ i < hi then some (f i) else A.slots[i]?
theorem Laid.zero (A : Cell) (lo : Nat) (f : Nat → Value) : Laid A A lo (lo + 0) f := ⟨rfl, rfl, rfl, fun i => by rw [if_neg (by omega)]⟩
theorem Laid.step {A Ak : Cell} {lo k : Nat} {f : Nat → Value} {v : Value} (h : Laid A Ak lo k f) (hlo : lo ≤ k) (hk : k < Ak.slots.size) (hv : v = f k) : Laid A (Ak.setSlot k v) lo (k + 1) f := by
  refine ⟨h.1, h.2.1, by simpa [Cell.setSlot] using h.2.2.1, fun i => ?_⟩
  by_cases e : k = i
  · subst e; rw [Cell.slots_setSlot_self v hk, if_pos (by omega), hv]
  · rw [Cell.slots_setSlot_ne v e, h.2.2.2 i]
    by_cases q : lo ≤ i ∧ i < k
    · rw [if_pos q, if_pos (by omega)]
    · rw [if_neg q, if_neg (by omega)]
def U16 : String := "java/lang/StringUTF16"
namespace Cmp5
def yN : MethodName := ⟨"java/lang/StringUTF16", "compress", "([CI[BII)I"⟩
abbrev yB : ByteArray := jdk_52_method_21_code
theorem d0 : decode yB 0 = .ok (.iconst 0, 1) := by decide +kernel
theorem d1 : decode yB 1 = .ok (.istore 5, 2) := by decide +kernel
theorem d3 : decode yB 3 = .ok (.iload 5, 2) := by decide +kernel
theorem d5 : decode yB 5 = .ok (.iload 4, 2) := by decide +kernel
theorem d7 : decode yB 7 = .ok (.if_icmp (.ge) 37, 3) := by decide +kernel
theorem d10 : decode yB 10 = .ok (.aload_n 0, 1) := by decide +kernel
theorem d11 : decode yB 11 = .ok (.iload_n 1, 1) := by decide +kernel
theorem d12 : decode yB 12 = .ok (.caload, 1) := by decide +kernel
theorem d13 : decode yB 13 = .ok (.istore 6, 2) := by decide +kernel
theorem d15 : decode yB 15 = .ok (.iload 6, 2) := by decide +kernel
theorem d17 : decode yB 17 = .ok (.sipush 255, 3) := by decide +kernel
theorem d20 : decode yB 20 = .ok (.if_icmp (.le) 6, 3) := by decide +kernel
theorem d26 : decode yB 26 = .ok (.aload_n 2, 1) := by decide +kernel
theorem d27 : decode yB 27 = .ok (.iload_n 3, 1) := by decide +kernel
theorem d28 : decode yB 28 = .ok (.iload 6, 2) := by decide +kernel
theorem d30 : decode yB 30 = .ok (.i2b, 1) := by decide +kernel
theorem d31 : decode yB 31 = .ok (.bastore, 1) := by decide +kernel
theorem d32 : decode yB 32 = .ok (.iinc 1 1, 3) := by decide +kernel
theorem d35 : decode yB 35 = .ok (.iinc 3 1, 3) := by decide +kernel
theorem d38 : decode yB 38 = .ok (.iinc 5 1, 3) := by decide +kernel
theorem d41 : decode yB 41 = .ok (.goto (-38), 3) := by decide +kernel
theorem d44 : decode yB 44 = .ok (.iload 4, 2) := by decide +kernel
theorem d46 : decode yB 46 = .ok (.ireturn, 1) := by decide +kernel
def site : List Cond := []
def tab : Cond := tabOf yN yB 7 (some .int) site
def P (b : Addr) (A : Cell) (d : Addr) (B : Cell) (o q len : Nat) (args : Array Value) (s : State) : Prop := args = #[.ref b, .int (Int32.ofNat o), .ref d, .int (Int32.ofNat q), .int (Int32.ofNat len)] ∧ Ch b A s ∧ Arr .byte d B s ∧ b ≠ d ∧ o + len ≤ A.slots.size ∧ q + len ≤ B.slots.size ∧ ∀ i, i < len → ¬ 255 < cv A (o + i)
def E (b : Addr) (A : Cell) (d : Addr) (B : Cell) (o q len : Nat) (r : Option Value) (s u : State) : Prop := r = some (.int (Int32.ofNat len)) ∧ ∃ B', Put d B' s u ∧ Laid B B' q (q + len) (fun j => Value.int (lo8 (cv A (o + (j - q)))))
/-- no char of the range above 255: len; the places written hold each char's low byte -/
theorem law (l : Launch) (b : Addr) (A : Cell) (d : Addr) (B : Cell) (o q len : Nat) : Law l yN 5 5 0 0 yB 7 (some .int) site (P b A d B o q len) (E b A d B o q len) (copyLocs d q len) 0 0 := by
  refine Law.of_walk (plainFor_of_name (by decide +kernel)) (by decide +kernel) (by decide +kernel) (by decide) (fun _ _ h => by rw [h.1]; rfl) (fun _ U U' hal hh h => ⟨h.1, h.2.1.mv hal hh, h.2.2.1.mv hal hh, h.2.2.2⟩) (fun r U U' V V' h1 hal h2 h => ⟨h.1, h.2.elim fun B' q => ⟨B', q.1.mv h1 h2, q.2⟩⟩) ?_
  intro p e s m args below meth c s₁ X0 hexec hbytes hml hret hlk hnm hown hh0 W hP
  obtain ⟨rfl, hA, hB, hne, l1, l2, hp⟩ := hP
  have c1 : Steps p.tables e below (s₁.setTop (entryFrame m #[.ref b, .int (Int32.ofNat o), .ref d, .int (Int32.ofNat q), .int (Int32.ofNat len)] 7)) (s₁.setTop (mkF m 0 #[.val (.ref b), .val (.int (Int32.ofNat o)), .val (.ref d), .val (.int (Int32.ofNat q)), .val (.int (Int32.ofNat len)), .unset, .unset] [])) := entry rfl
  have hA0 := hA.1.mv X0.warmed.alike hh0
  have hB0 := hB.mv X0.warmed.alike hh0
  have a31 := hA.1.2.2.2
  have c2 : Steps p.tables e below (s₁.setTop (entryFrame m #[.ref b, .int (Int32.ofNat o), .ref d, .int (Int32.ofNat q), .int (Int32.ofNat len)] 7)) (s₁.setTop (mkF m 3 #[.val (.ref b), .val (.int (Int32.ofNat o)), .val (.ref d), .val (.int (Int32.ofNat q)), .val (.int (Int32.ofNat len)), .val (.int 0), .unset] [])) := c1.trans (by
    refine iconstV X0.here hexec rfl 0 (hb hbytes d0) (by decide) ?_
    refine XS.istore X0.here hexec rfl (hb hbytes d1) rfl rfl ?_
    exact Steps.refl _)
  have loop : ∀ (r i : Nat), i + r = len → ∀ (z : Slot), (z = .unset ∨ ∃ w, z = .val w ∧ w.category = 1) → ∀ (Tl : State) (Bk : Cell), Stand p l e { frames := 0, locals := 0, cells := 0, slots := 0 } s m #[.ref b, .int (Int32.ofNat o), .ref d, .int (Int32.ofNat q), .int (Int32.ofNat len)] below meth c Tl ([] ++ copyLocs d q i) 0 0 → Put d Bk s₁ Tl → Laid B Bk q (q + i) (fun j => Value.int (lo8 (cv A (o + (j - q))))) →
      Steps p.tables e below (s₁.setTop (entryFrame m #[.ref b, .int (Int32.ofNat o), .ref d, .int (Int32.ofNat q), .int (Int32.ofNat len)] 7)) (Tl.setTop (mkF m 3 #[.val (.ref b), .val (.int (Int32.ofNat (o + i))), .val (.ref d), .val (.int (Int32.ofNat (q + i))), .val (.int (Int32.ofNat len)), .val (.int (Int32.ofNat i)), z] [])) → ∃ (T' : State) (B' : Cell) (z' : Slot), Stand p l e { frames := 0, locals := 0, cells := 0, slots := 0 } s m #[.ref b, .int (Int32.ofNat o), .ref d, .int (Int32.ofNat q), .int (Int32.ofNat len)] below meth c T' ([] ++ copyLocs d q len) 0 0 ∧ Put d B' s₁ T' ∧ Laid B B' q (q + len) (fun j => Value.int (lo8 (cv A (o + (j - q))))) ∧
      Steps p.tables e below (s₁.setTop (entryFrame m #[.ref b, .int (Int32.ofNat o), .ref d, .int (Int32.ofNat q), .int (Int32.ofNat len)] 7)) (T'.setTop (mkF m 3 #[.val (.ref b), .val (.int (Int32.ofNat (o + len))), .val (.ref d), .val (.int (Int32.ofNat (q + len))), .val (.int (Int32.ofNat len)), .val (.int (Int32.ofNat len)), z'] [])) := by
    intro r
    induction r with
    | zero =>
      intro i hi z hz Tl Bk Xl pl fl cl
      have hil : i = len := by omega
      rw [hil] at Xl fl cl
      exact ⟨Tl, Bk, z, Xl, pl, fl, cl⟩
    | succ r ih =>
      intro i hi z hz Tl Bk Xl pl fl cl
      have all := X0.warmed.alike.symm.trans Xl.warmed.alike
      have hAl := hA0.keep all (pl.other hne hA0.1)
      have hBk := hB0.like all pl.1 fl.1 fl.2.1 fl.2.2.1
      have hlt : q + i < Bk.slots.size := by rw [fl.2.2.1]; omega
      have c3 : Steps p.tables e below (s₁.setTop (entryFrame m #[.ref b, .int (Int32.ofNat o), .ref d, .int (Int32.ofNat q), .int (Int32.ofNat len)] 7)) (Tl.setTop (mkF m 12 #[.val (.ref b), .val (.int (Int32.ofNat (o + i))), .val (.ref d), .val (.int (Int32.ofNat (q + i))), .val (.int (Int32.ofNat len)), .val (.int (Int32.ofNat i)), z] [.int (Int32.ofNat (o + i)), .ref b])) := cl.trans (by
        refine XS.iload Xl.here hexec rfl (hb hbytes d3) rfl ?_
        refine XS.iload Xl.here hexec rfl (hb hbytes d5) rfl ?_
        refine XS.icmpNo Xl.here hexec rfl (hb hbytes d7) rfl (ii_ge_f (lt32 (by omega) (by omega))) ?_
        refine XS.aloadN Xl.here hexec rfl (hb hbytes d10) rfl rfl ?_
        refine XS.iloadN Xl.here hexec rfl (hb hbytes d11) rfl ?_
        exact Steps.refl _)
      have c4 : Steps p.tables e below (s₁.setTop (entryFrame m #[.ref b, .int (Int32.ofNat o), .ref d, .int (Int32.ofNat q), .int (Int32.ofNat len)] 7)) (Tl.setTop (mkF m 13 #[.val (.ref b), .val (.int (Int32.ofNat (o + i))), .val (.ref d), .val (.int (Int32.ofNat (q + i))), .val (.int (Int32.ofNat len)), .val (.int (Int32.ofNat i)), z] [.int (cv A (o + i))])) := c3.trans (by
        refine Xl.aget hexec hAl rfl (hA.get (i := o + i) (by omega)) rfl rfl (hb hbytes d12) ?_
        exact Steps.refl _)
      have c5 : Steps p.tables e below (s₁.setTop (entryFrame m #[.ref b, .int (Int32.ofNat o), .ref d, .int (Int32.ofNat q), .int (Int32.ofNat len)] 7)) (Tl.setTop (mkF m 15 #[.val (.ref b), .val (.int (Int32.ofNat (o + i))), .val (.ref d), .val (.int (Int32.ofNat (q + i))), .val (.int (Int32.ofNat len)), .val (.int (Int32.ofNat i)), .val (.int (cv A (o + i)))] [])) := c4.trans (by
        refine XS.istoreS Xl.here hexec rfl (hb hbytes d13) rfl rfl hz ?_
        exact Steps.refl _)
      have c6 : Steps p.tables e below (s₁.setTop (entryFrame m #[.ref b, .int (Int32.ofNat o), .ref d, .int (Int32.ofNat q), .int (Int32.ofNat len)] 7)) (Tl.setTop (mkF m 31 #[.val (.ref b), .val (.int (Int32.ofNat (o + i))), .val (.ref d), .val (.int (Int32.ofNat (q + i))), .val (.int (Int32.ofNat len)), .val (.int (Int32.ofNat i)), .val (.int (cv A (o + i)))] [.int (lo8 (cv A (o + i))), .int (Int32.ofNat (q + i)), .ref d])) := c5.trans (by
        refine XS.iload Xl.here hexec rfl (hb hbytes d15) rfl ?_
        refine sipushV Xl.here hexec rfl 255 (hb hbytes d17) (by decide) ?_
        refine XS.icmpYes Xl.here hexec rfl (pc0 := 20) rfl (hb hbytes d20) rfl (ii_le_t (hp i (by omega))) (by decide) rfl ?_
        refine XS.aloadN Xl.here hexec rfl (hb hbytes d26) rfl rfl ?_
        refine XS.iloadN Xl.here hexec rfl (hb hbytes d27) rfl ?_
        refine XS.iload Xl.here hexec rfl (hb hbytes d28) rfl ?_
        refine i2b Xl.here hexec rfl (hb hbytes d30) rfl ?_
        exact Steps.refl _)
      obtain ⟨T7, X7, p7, st7⟩ := Xl.aput hexec hBk rfl hlt rfl (fits_lo8 (cv A (o + i))) (g := (mkF m 31 #[.val (.ref b), .val (.int (Int32.ofNat (o + i))), .val (.ref d), .val (.int (Int32.ofNat (q + i))), .val (.int (Int32.ofNat len)), .val (.int (Int32.ofNat i)), .val (.int (cv A (o + i)))] [.int (lo8 (cv A (o + i))), .int (Int32.ofNat (q + i)), .ref d])) rfl (rest := []) rfl (hb hbytes d31)
      have c8 : Steps p.tables e below (s₁.setTop (entryFrame m #[.ref b, .int (Int32.ofNat o), .ref d, .int (Int32.ofNat q), .int (Int32.ofNat len)] 7)) (T7.setTop (mkF m 32 #[.val (.ref b), .val (.int (Int32.ofNat (o + i))), .val (.ref d), .val (.int (Int32.ofNat (q + i))), .val (.int (Int32.ofNat len)), .val (.int (Int32.ofNat i)), .val (.int (cv A (o + i)))] [])) := c6.trans (st7 _ (Steps.refl _))
      have c9 : Steps p.tables e below (s₁.setTop (entryFrame m #[.ref b, .int (Int32.ofNat o), .ref d, .int (Int32.ofNat q), .int (Int32.ofNat len)] 7)) (T7.setTop (mkF m 3 #[.val (.ref b), .val (.int (Int32.ofNat (o + i) + 1)), .val (.ref d), .val (.int (Int32.ofNat (q + i) + 1)), .val (.int (Int32.ofNat len)), .val (.int (Int32.ofNat i + 1)), .val (.int (cv A (o + i)))] [])) := c8.trans (by
        refine iincV X7.here hexec rfl 1 (hb hbytes d32) (by decide) rfl rfl ?_
        refine iincV X7.here hexec rfl 1 (hb hbytes d35) (by decide) rfl rfl ?_
        refine iincV X7.here hexec rfl 1 (hb hbytes d38) (by decide) rfl rfl ?_
        refine XS.goto X7.here hexec rfl (pc0 := 41) rfl (hb hbytes d41) (by decide) rfl ?_
        exact Steps.refl _)
      have c10 : Steps p.tables e below (s₁.setTop (entryFrame m #[.ref b, .int (Int32.ofNat o), .ref d, .int (Int32.ofNat q), .int (Int32.ofNat len)] 7)) (T7.setTop (mkF m 3 #[.val (.ref b), .val (.int (Int32.ofNat (o + (i + 1)))), .val (.ref d), .val (.int (Int32.ofNat (q + (i + 1)))), .val (.int (Int32.ofNat len)), .val (.int (Int32.ofNat (i + 1))), .val (.int (cv A (o + i)))] [])) := by
        have := c9
        rw [succ32, succ32, succ32] at this
        exact this
      exact ih (i + 1) (by omega) _ (Or.inr ⟨_, rfl, rfl⟩) T7 _ (by rw [copyLocs_step, ← List.append_assoc]; exact X7) (pl.trans p7) (fl.step (by omega) hlt (by simp)) c10
  obtain ⟨T9, B9, z9, X9, p9, f9, g9⟩ := loop len 0 (by omega) .unset (Or.inl rfl) s₁ B (by simpa [copyLocs] using X0) ⟨hB0.1, fun _ _ => rfl, rfl⟩ (Laid.zero _ _ _) c2
  have c11 : Steps p.tables e below (s₁.setTop (entryFrame m #[.ref b, .int (Int32.ofNat o), .ref d, .int (Int32.ofNat q), .int (Int32.ofNat len)] 7)) (T9.setTop (mkF m 46 #[.val (.ref b), .val (.int (Int32.ofNat (o + len))), .val (.ref d), .val (.int (Int32.ofNat (q + len))), .val (.int (Int32.ofNat len)), .val (.int (Int32.ofNat len)), z9] [.int (Int32.ofNat len)])) := g9.trans (by
    refine XS.iload X9.here hexec rfl (hb hbytes d3) rfl ?_
    refine XS.iload X9.here hexec rfl (hb hbytes d5) rfl ?_
    refine XS.icmpYes X9.here hexec rfl (pc0 := 7) rfl (hb hbytes d7) rfl (ii_ge_t (nlt32 (by omega) (Nat.le_refl _))) (by decide) rfl ?_
    refine XS.iload X9.here hexec rfl (hb hbytes d44) rfl ?_
    exact Steps.refl _)
  exact ⟨T9, some (.int (Int32.ofNat len)), _, _, _, X9, by simp, rfl, rfl, (fun h => by cases h), ⟨rfl, B9, p9.from hh0, f9⟩, fun fs hl => c11.trans (X9.ireturnOut hexec hret rfl (Or.inl rfl) (hb hbytes d46) hl)⟩
end Cmp5
namespace Cmp3
def yN : MethodName := ⟨"java/lang/StringUTF16", "compress", "([CII)[B"⟩
abbrev yB : ByteArray := jdk_52_method_16_code
theorem d0 : decode yB 0 = .ok (.iload_n 2, 1) := by decide +kernel
theorem d1 : decode yB 1 = .ok (.newarray .byte, 2) := by decide +kernel
theorem d3 : decode yB 3 = .ok (.astore_n 3, 1) := by decide +kernel
theorem d4 : decode yB 4 = .ok (.aload_n 0, 1) := by decide +kernel
theorem d5 : decode yB 5 = .ok (.iload_n 1, 1) := by decide +kernel
theorem d6 : decode yB 6 = .ok (.aload_n 3, 1) := by decide +kernel
theorem d7 : decode yB 7 = .ok (.iconst 0, 1) := by decide +kernel
theorem d8 : decode yB 8 = .ok (.iload_n 2, 1) := by decide +kernel
theorem d9 : decode yB 9 = .ok (.invokestatic 115, 3) := by decide +kernel
theorem d12 : decode yB 12 = .ok (.istore 4, 2) := by decide +kernel
theorem d14 : decode yB 14 = .ok (.iload 4, 2) := by decide +kernel
theorem d16 : decode yB 16 = .ok (.iload_n 2, 1) := by decide +kernel
theorem d17 : decode yB 17 = .ok (.if_icmp (.eq) 40, 3) := by decide +kernel
theorem d57 : decode yB 57 = .ok (.aload_n 3, 1) := by decide +kernel
theorem d58 : decode yB 58 = .ok (.areturn, 1) := by decide +kernel
def site : List Cond := [.arrayClass .byte, Cmp5.tab] ++ staticW U16 115 Cmp5.yN
def tab : Cond := tabOf yN yB 6 (some (.array .byte)) site
def P (b : Addr) (A : Cell) (o len : Nat) (args : Array Value) (s : State) : Prop := args = #[.ref b, .int (Int32.ofNat o), .int (Int32.ofNat len)] ∧ Ch b A s ∧ o + len ≤ A.slots.size ∧ len ≤ 536870912 ∧ ∀ i, i < len → ¬ 255 < cv A (o + i)
def E (b : Addr) (A : Cell) (o len : Nat) (r : Option Value) (s u : State) : Prop := NewArr .byte "[B" len (fun j => .int (lo8 (cv A (o + j)))) r s u ∧ u.heap.size = s.heap.size + 1
/-- no char of the range above 255: a new byte[] of their low bytes -/
theorem law (l : Launch) (b : Addr) (A : Cell) (o len : Nat) : Law l yN 3 3 1 18 yB 6 (some (.array .byte)) site (P b A o len) (E b A o len) [] 1 len := by
  refine Law.of_walk (plainFor_of_name (by decide +kernel)) (by decide +kernel) (by decide +kernel) (by decide) (fun _ _ h => by rw [h.1]; rfl) (fun _ U U' hal hh h => ⟨h.1, h.2.1.mv hal hh, h.2.2⟩) (fun r U U' V V' h1 hal h2 h => ⟨NewArr.mv r U U' V V' h1 hal h2 h.1, by rw [h1, h2]; exact h.2⟩) ?_
  intro p e s m args below meth c s₁ X0 hexec hbytes hml hret hlk hnm hown hh0 W hP
  obtain ⟨rfl, hA, l1, l2, hp⟩ := hP
  have a31 := hA.1.2.2.2
  have c1 : Steps p.tables e below (s₁.setTop (entryFrame m #[.ref b, .int (Int32.ofNat o), .int (Int32.ofNat len)] 6)) (s₁.setTop (mkF m 0 #[.val (.ref b), .val (.int (Int32.ofNat o)), .val (.int (Int32.ofNat len)), .unset, .unset, .unset] [])) := entry rfl
  have c2 : Steps p.tables e below (s₁.setTop (entryFrame m #[.ref b, .int (Int32.ofNat o), .int (Int32.ofNat len)] 6)) (s₁.setTop (mkF m 1 #[.val (.ref b), .val (.int (Int32.ofNat o)), .val (.int (Int32.ofNat len)), .unset, .unset, .unset] [.int (Int32.ofNat len)])) := c1.trans (by
    refine XS.iloadN X0.here hexec rfl (hb hbytes d0) rfl ?_
    exact Steps.refl _)
  obtain ⟨T3, B3, X3, ba3, bs3, bv3, bh3, bf3, st3⟩ := X0.anew hexec (atype := .byte) (wk W (.arrayClass .byte)) rfl (by show len * 1 ≤ _; omega) (by omega) (g := (mkF m 1 #[.val (.ref b), .val (.int (Int32.ofNat o)), .val (.int (Int32.ofNat len)), .unset, .unset, .unset] [.int (Int32.ofNat len)])) rfl (hb hbytes d1) (rest := []) rfl (Nat.le_refl _) (by show 0 + len ≤ len; omega)
  rw [hh0] at ba3 st3
  have kp3 : XT.Kept s T3 := (XT.Kept.of_eq hh0).push bh3
  have hA3 := hA.keep X3.warmed.alike (kp3 _ _ hA.1.1)
  have hne : b ≠ s.heap.size := hA.1.ne
  have c4 : Steps p.tables e below (s₁.setTop (entryFrame m #[.ref b, .int (Int32.ofNat o), .int (Int32.ofNat len)] 6)) (T3.setTop (mkF m 3 #[.val (.ref b), .val (.int (Int32.ofNat o)), .val (.int (Int32.ofNat len)), .unset, .unset, .unset] [.ref s.heap.size])) := c2.trans (st3 _ (Steps.refl _))
  have c5 : Steps p.tables e below (s₁.setTop (entryFrame m #[.ref b, .int (Int32.ofNat o), .int (Int32.ofNat len)] 6)) (T3.setTop (mkF m 9 #[.val (.ref b), .val (.int (Int32.ofNat o)), .val (.int (Int32.ofNat len)), .val (.ref s.heap.size), .unset, .unset] [.int (Int32.ofNat len), .int 0, .ref s.heap.size, .int (Int32.ofNat o), .ref b])) := c4.trans (by
    refine XS.astoreN X3.here hexec rfl (hb hbytes d3) rfl rfl rfl ?_
    refine XS.aloadN X3.here hexec rfl (hb hbytes d4) rfl rfl ?_
    refine XS.iloadN X3.here hexec rfl (hb hbytes d5) rfl ?_
    refine XS.aloadN X3.here hexec rfl (hb hbytes d6) rfl rfl ?_
    refine iconstV X3.here hexec rfl 0 (hb hbytes d7) (by decide) ?_
    refine XS.iloadN X3.here hexec rfl (hb hbytes d8) rfl ?_
    exact Steps.refl _)
  obtain ⟨v6, T6, X6, E6, g6⟩ := X3.callS hexec (Cmp5.law l b A s.heap.size B3 o 0 len) hown (wks W (staticW U16 115 Cmp5.yN)) (wk W Cmp5.tab) (W := 0) (Nat.le_of_ble_eq_true rfl) (Nat.le_of_ble_eq_true rfl) (Nat.le_refl _) (by show 0 + len + 0 ≤ len; omega) (g := (mkF m 9 #[.val (.ref b), .val (.int (Int32.ofNat o)), .val (.int (Int32.ofNat len)), .val (.ref s.heap.size), .unset, .unset] [.int (Int32.ofNat len), .int (Int32.ofNat 0), .ref s.heap.size, .int (Int32.ofNat o), .ref b])) rfl (by rw [hml]; rfl) c5 (argsL := [.ref b, .int (Int32.ofNat o), .ref s.heap.size, .int (Int32.ofNat 0), .int (Int32.ofNat len)]) (rest := []) rfl rfl (by show 2 * 0 + 0 ≤ _; decide) (hb hbytes d9) (⟨rfl, hA3, ba3, hne, l1, by rw [bs3]; simp, hp⟩)
  obtain ⟨rfl, B6, p6, f6⟩ := E6
  have c7 : Steps p.tables e below (s₁.setTop (entryFrame m #[.ref b, .int (Int32.ofNat o), .int (Int32.ofNat len)] 6)) (T6.setTop (mkF m 12 #[.val (.ref b), .val (.int (Int32.ofNat o)), .val (.int (Int32.ofNat len)), .val (.ref s.heap.size), .unset, .unset] [.int (Int32.ofNat len)])) := g6
  have c8 : Steps p.tables e below (s₁.setTop (entryFrame m #[.ref b, .int (Int32.ofNat o), .int (Int32.ofNat len)] 6)) (T6.setTop (mkF m 58 #[.val (.ref b), .val (.int (Int32.ofNat o)), .val (.int (Int32.ofNat len)), .val (.ref s.heap.size), .val (.int (Int32.ofNat len)), .unset] [.ref s.heap.size])) := c7.trans (by
    refine XS.istore X6.here hexec rfl (hb hbytes d12) rfl rfl ?_
    refine XS.iload X6.here hexec rfl (hb hbytes d14) rfl ?_
    refine XS.iloadN X6.here hexec rfl (hb hbytes d16) rfl ?_
    refine XS.icmpYes X6.here hexec rfl (pc0 := 17) rfl (hb hbytes d17) rfl (ii_eq_t rfl) (by decide) rfl ?_
    refine XS.aloadN X6.here hexec rfl (hb hbytes d57) rfl rfl ?_
    exact Steps.refl _)
  have X8 := X6.wide (L' := []) (cells' := 1) (slots' := len) (fun x hx hlt => by
    simp only [List.nil_append, copyLocs, List.mem_map, List.mem_range] at hx
    obtain ⟨i, -, rfl⟩ := hx
    exact absurd hlt (Nat.lt_irrefl _)) (Nat.le_refl _) (by omega)
  exact ⟨T6, some (.ref s.heap.size), _, _, _, X8, rfl, rfl, rfl, (fun h => by cases h), ⟨⟨rfl, B6, ba3.like (X3.warmed.alike.symm.trans X6.warmed.alike) p6.1 f6.1 f6.2.1 f6.2.2.1, f6.2.1.trans bv3, by rw [X6.warmed.alike.findClass, f6.1]; exact bf3, by rw [f6.2.2.1, bs3]; simp, fun j hj => by rw [f6.2.2.2 j, if_pos (by omega)]; rfl, kp3.put p6 (Nat.le_refl _)⟩, by rw [p6.2.2, bh3, hh0]; simp⟩, fun fs hl => c8.trans (X8.areturnOut hexec rfl hret rfl (hb hbytes d58) hl)⟩
end Cmp3
namespace CodL
def yN : MethodName := ⟨"java/lang/StringUTF16", "coderFromArrayLen", "([BI)B"⟩
abbrev yB : ByteArray := jdk_52_method_15_code
theorem d0 : decode yB 0 = .ok (.iload_n 1, 1) := by decide +kernel
theorem d1 : decode yB 1 = .ok (.aload_n 0, 1) := by decide +kernel
theorem d2 : decode yB 2 = .ok (.arraylength, 1) := by decide +kernel
theorem d3 : decode yB 3 = .ok (.isub, 1) := by decide +kernel
theorem d4 : decode yB 4 = .ok (.bipush 31, 2) := by decide +kernel
theorem d6 : decode yB 6 = .ok (.iushr, 1) := by decide +kernel
theorem d7 : decode yB 7 = .ok (.i2b, 1) := by decide +kernel
theorem d8 : decode yB 8 = .ok (.ireturn, 1) := by decide +kernel
def site : List Cond := []
def tab : Cond := tabOf yN yB 2 (some .byte) site
def P (d : Addr) (B : Cell) (args : Array Value) (s : State) : Prop := args = #[.ref d, .int (Int32.ofNat B.slots.size)] ∧ Arr .byte d B s
def E (r : Option Value) (s u : State) : Prop := XT.PureE (some (.int 0)) r s u
/-- an array as long as the number of chars: LATIN1 -/
theorem law (l : Launch) (d : Addr) (B : Cell) : Law l yN 2 2 0 0 yB 2 (some .byte) site (P d B) E [] 0 0 := by
  refine Law.of_walk (plainFor_of_name (by decide +kernel)) (by decide +kernel) (by decide +kernel) (by decide) (fun _ _ h => by rw [h.1]; rfl) (fun _ U U' hal hh h => ⟨h.1, h.2.mv hal hh⟩) (fun r U U' V V' h1 hal h2 h => XT.PureE.mv r U U' V V' h1 hal h2 h) ?_
  intro p e s m args below meth c s₁ X0 hexec hbytes hml hret hlk hnm hown hh0 W hP
  obtain ⟨rfl, hB⟩ := hP
  have hB0 := hB.mv X0.warmed.alike hh0
  have c1 : Steps p.tables e below (s₁.setTop (entryFrame m #[.ref d, .int (Int32.ofNat B.slots.size)] 2)) (s₁.setTop (mkF m 0 #[.val (.ref d), .val (.int (Int32.ofNat B.slots.size))] [])) := entry rfl
  have c2 : Steps p.tables e below (s₁.setTop (entryFrame m #[.ref d, .int (Int32.ofNat B.slots.size)] 2)) (s₁.setTop (mkF m 2 #[.val (.ref d), .val (.int (Int32.ofNat B.slots.size))] [.ref d, .int (Int32.ofNat B.slots.size)])) := c1.trans (by
    refine XS.iloadN X0.here hexec rfl (hb hbytes d0) rfl ?_
    refine XS.aloadN X0.here hexec rfl (hb hbytes d1) rfl rfl ?_
    exact Steps.refl _)
  have c3 : Steps p.tables e below (s₁.setTop (entryFrame m #[.ref d, .int (Int32.ofNat B.slots.size)] 2)) (s₁.setTop (mkF m 8 #[.val (.ref d), .val (.int (Int32.ofNat B.slots.size))] [.int (lo8 (ushr (Int32.ofNat B.slots.size - Int32.ofNat B.slots.size) 31))])) := c2.trans (by
    refine X0.alen hexec hB0 rfl rfl (hb hbytes d2) ?_
    refine XS.isub X0.here hexec rfl (hb hbytes d3) rfl ?_
    refine bipushV X0.here hexec rfl 31 (hb hbytes d4) (by decide) ?_
    refine iushr X0.here hexec rfl (hb hbytes d6) rfl ?_
    refine i2b X0.here hexec rfl (hb hbytes d7) rfl ?_
    exact Steps.refl _)
  have e0 : lo8 (ushr (Int32.ofNat B.slots.size - Int32.ofNat B.slots.size) 31) = 0 := by rw [Int32.sub_self]; decide
  rw [e0] at c3
  exact ⟨s₁, some (.int 0), _, _, _, X0, rfl, rfl, rfl, (fun h => by cases h), ⟨rfl, hh0⟩, fun fs hl => c3.trans (X0.ireturnOut hexec hret rfl (Or.inr (Or.inr (Or.inl rfl))) (hb hbytes d8) hl)⟩
end CodL
/-- the String at a is Latin-1 over a new byte[] (the heap's one new cell): the low bytes of the len chars of A from o on; every cell but a is kept -/
def Got (a : Addr) (D : Cell) (fV fC : Field) (A : Cell) (o len : Nat) (r : Option Value) (s u : State) : Prop := r = none ∧ ∃ D' V : Cell, Blank "java/lang/String" a D' u ∧ Same D D' [fV.slot, fC.slot] ∧ D'.slots[fV.slot]? = some (.ref s.heap.size) ∧ D'.slots[fC.slot]? = some (.int 0) ∧ Arr .byte s.heap.size V u ∧ V.vm = .none ∧ u.vm.findClass "[B" = some V.cls ∧ V.slots.size = len ∧ (∀ j, j < len → V.slots[j]? = some (.int (lo8 (cv A (o + j))))) ∧ (∀ (y : Addr) (c : Cell), y ≠ a → s.heap[y]? = some c → u.heap[y]? = some c) ∧ u.heap.size = s.heap.size + 1
theorem Got.mv {a : Addr} {D A : Cell} {fV fC : Field} {o len : Nat} : ∀ r (U U' V V' : State), U'.heap = U.heap → V.vm.Alike V'.vm → V'.heap = V.heap → Got a D fV fC A o len r U V → Got a D fV fC A o len r U' V' :=
  fun r U U' V V' h1 hal h2 ⟨e0, D', X, a1, a2, a3, a4, a5, a6, a7, a8, a9, a10, a11⟩ => ⟨e0, D', X, a1.mv hal h2, a2, by rw [h1]; exact a3, a4, by rw [h1]; exact a5.mv hal h2, a6, by rw [hal.findClass]; exact a7, a8, a9, by rw [h1, h2]; exact a10, by rw [h1, h2]; exact a11⟩
namespace New4
def yN : MethodName := ⟨"java/lang/String", "<init>", "([CIILjava/lang/Void;)V"⟩
abbrev yB : ByteArray := jdk_42_method_149_code
theorem d0 : decode yB 0 = .ok (.aload_n 0, 1) := by decide +kernel
theorem d1 : decode yB 1 = .ok (.invokespecial 1, 3) := by decide +kernel
theorem d4 : decode yB 4 = .ok (.iload_n 3, 1) := by decide +kernel
theorem d5 : decode yB 5 = .ok (.ifCond (.ne) 22, 3) := by decide +kernel
theorem d27 : decode yB 27 = .ok (.getstatic 38, 3) := by decide +kernel
theorem d30 : decode yB 30 = .ok (.ifCond (.eq) 28, 3) := by decide +kernel
theorem d33 : decode yB 33 = .ok (.aload_n 1, 1) := by decide +kernel
theorem d34 : decode yB 34 = .ok (.iload_n 2, 1) := by decide +kernel
theorem d35 : decode yB 35 = .ok (.iload_n 3, 1) := by decide +kernel
theorem d36 : decode yB 36 = .ok (.invokestatic 177, 3) := by decide +kernel
theorem d39 : decode yB 39 = .ok (.astore 5, 2) := by decide +kernel
theorem d41 : decode yB 41 = .ok (.aload_n 0, 1) := by decide +kernel
theorem d42 : decode yB 42 = .ok (.aload 5, 2) := by decide +kernel
theorem d44 : decode yB 44 = .ok (.iload_n 3, 1) := by decide +kernel
theorem d45 : decode yB 45 = .ok (.invokestatic 47, 3) := by decide +kernel
theorem d48 : decode yB 48 = .ok (.putfield 15, 3) := by decide +kernel
theorem d51 : decode yB 51 = .ok (.aload_n 0, 1) := by decide +kernel
theorem d52 : decode yB 52 = .ok (.aload 5, 2) := by decide +kernel
theorem d54 : decode yB 54 = .ok (.putfield 9, 3) := by decide +kernel
theorem d57 : decode yB 57 = .ok (.return_, 1) := by decide +kernel
def site : List Cond := [.fieldLink "java/lang/String" 38 "java/lang/String" "COMPACT_STRINGS" "Z", Cmp3.tab, CodL.tab, .laysFinal "java/lang/String" "java/lang/String" "value" "[B", .fieldLink "java/lang/String" 9 "java/lang/String" "value" "[B", .laysFinal "java/lang/String" "java/lang/String" "coder" "B", .fieldLink "java/lang/String" 15 "java/lang/String" "coder" "B"] ++ objW "java/lang/String" 1 ++ staticW "java/lang/String" 177 Cmp3.yN ++ staticW "java/lang/String" 47 CodL.yN
def tab : Cond := tabOf yN yB 6 none site
def P (a : Addr) (D : Cell) (fV fC : Field) (b : Addr) (A : Cell) (z : Int32) (o len : Nat) (args : Array Value) (s : State) : Prop := args = #[.ref a, .ref b, .int (Int32.ofNat o), .int (Int32.ofNat len), .null] ∧ Blank "java/lang/String" a D s ∧ Found "java/lang/String" "value" "[B" fV s ∧ Found "java/lang/String" "coder" "B" fC s ∧ Ch b A s ∧ StaticIs s "java/lang/String" "COMPACT_STRINGS" "Z" (.int z) ∧ ¬ z = 0 ∧ 0 < len ∧ o + len ≤ A.slots.size ∧ len ≤ 536870912 ∧ ∀ i, i < len → ¬ 255 < cv A (o + i)
def E (a : Addr) (D : Cell) (fV fC : Field) (A : Cell) (o len : Nat) (r : Option Value) (s u : State) : Prop := Got a D fV fC A o len r s u
/-- len > 0, no char of the range above 255: a Latin-1 String of their low bytes -/
theorem law (l : Launch) (a : Addr) (D : Cell) (fV fC : Field) (b : Addr) (A : Cell) (z : Int32) (o len : Nat) : Law l yN 5 4 2 35 yB 6 none site (P a D fV fC b A z o len) (E a D fV fC A o len) [⟨a, fC.slot⟩, ⟨a, fV.slot⟩] 1 len := by
  refine Law.of_walk (plainFor_of_name (by decide +kernel)) (by decide +kernel) (by decide +kernel) (by decide) (fun _ _ h => by rw [h.1]; rfl) (fun _ U U' hal hh h => ⟨h.1, h.2.1.mv hal hh, h.2.2.1.al hal, h.2.2.2.1.al hal, h.2.2.2.2.1.mv hal hh, h.2.2.2.2.2.1.there hal hh, h.2.2.2.2.2.2⟩) (fun r U U' V V' h1 hal h2 h => Got.mv r U U' V V' h1 hal h2 h) ?_
  intro p e s m args below meth c s₁ X0 hexec hbytes hml hret hlk hnm hown hh0 W hP
  obtain ⟨rfl, hB, f1, f2, hA, s1, hz, l0, l1, l2, hp⟩ := hP
  have a31 := hA.1.2.2.2
  have c1 : Steps p.tables e below (s₁.setTop (entryFrame m #[.ref a, .ref b, .int (Int32.ofNat o), .int (Int32.ofNat len), .null] 6)) (s₁.setTop (mkF m 0 #[.val (.ref a), .val (.ref b), .val (.int (Int32.ofNat o)), .val (.int (Int32.ofNat len)), .val .null, .unset] [])) := entry rfl
  have c2 : Steps p.tables e below (s₁.setTop (entryFrame m #[.ref a, .ref b, .int (Int32.ofNat o), .int (Int32.ofNat len), .null] 6)) (s₁.setTop (mkF m 1 #[.val (.ref a), .val (.ref b), .val (.int (Int32.ofNat o)), .val (.int (Int32.ofNat len)), .val .null, .unset] [.ref a])) := c1.trans (by
    refine XS.aloadN X0.here hexec rfl (hb hbytes d0) rfl rfl ?_
    exact Steps.refl _)
  obtain ⟨T3, X3, q3, st3⟩ := X0.oinit hexec hown (wks W (objW "java/lang/String" 1)) (g := (mkF m 1 #[.val (.ref a), .val (.ref b), .val (.int (Int32.ofNat o)), .val (.int (Int32.ofNat len)), .val .null, .unset] [.ref a])) rfl (by rw [hml]; rfl) (rest := []) rfl (hb hbytes d1) (W := 0) (by show 2 * 0 + 0 ≤ _; decide) (Nat.le_of_ble_eq_true rfl) (Nat.le_of_ble_eq_true rfl)
  have hh3 := q3.trans hh0
  have c4 : Steps p.tables e below (s₁.setTop (entryFrame m #[.ref a, .ref b, .int (Int32.ofNat o), .int (Int32.ofNat len), .null] 6)) (T3.setTop (mkF m 27 #[.val (.ref a), .val (.ref b), .val (.int (Int32.ofNat o)), .val (.int (Int32.ofNat len)), .val .null, .unset] [])) := (c2.trans (st3 _ (Steps.refl _))).trans (by
    refine XS.iloadN X3.here hexec rfl (hb hbytes d4) rfl ?_
    refine XS.ifYes X3.here hexec rfl (pc0 := 5) rfl (hb hbytes d5) rfl (i0_ne_t (nz32 (by omega) l0)) (by decide) rfl ?_
    exact Steps.refl _)
  obtain ⟨T5, X5, q5, st5⟩ := X3.sget hexec hown (wk W (.fieldLink "java/lang/String" 38 "java/lang/String" "COMPACT_STRINGS" "Z")) s1 (fun _ _ h => by rw [hh3]; exact h) (g := (mkF m 27 #[.val (.ref a), .val (.ref b), .val (.int (Int32.ofNat o)), .val (.int (Int32.ofNat len)), .val .null, .unset] [])) rfl (hb hbytes d27)
  have hh5 := q5.trans hh3
  have c6 : Steps p.tables e below (s₁.setTop (entryFrame m #[.ref a, .ref b, .int (Int32.ofNat o), .int (Int32.ofNat len), .null] 6)) (T5.setTop (mkF m 30 #[.val (.ref a), .val (.ref b), .val (.int (Int32.ofNat o)), .val (.int (Int32.ofNat len)), .val .null, .unset] [.int z])) := c4.trans (st5 _ (Steps.refl _))
  have c7 : Steps p.tables e below (s₁.setTop (entryFrame m #[.ref a, .ref b, .int (Int32.ofNat o), .int (Int32.ofNat len), .null] 6)) (T5.setTop (mkF m 36 #[.val (.ref a), .val (.ref b), .val (.int (Int32.ofNat o)), .val (.int (Int32.ofNat len)), .val .null, .unset] [.int (Int32.ofNat len), .int (Int32.ofNat o), .ref b])) := c6.trans (by
    refine XS.ifNo X5.here hexec rfl (hb hbytes d30) rfl (i0_eq_f hz) ?_
    refine XS.aloadN X5.here hexec rfl (hb hbytes d33) rfl rfl ?_
    refine XS.iloadN X5.here hexec rfl (hb hbytes d34) rfl ?_
    refine XS.iloadN X5.here hexec rfl (hb hbytes d35) rfl ?_
    exact Steps.refl _)
  obtain ⟨v8, T8, X8, E8, g8⟩ := X5.callS hexec (Cmp3.law l b A o len) hown (wks W (staticW "java/lang/String" 177 Cmp3.yN)) (wk W Cmp3.tab) (W := 0) (Nat.le_of_ble_eq_true rfl) (Nat.le_of_ble_eq_true rfl) (Nat.le_refl _) (by show 0 + len ≤ len; omega) (g := (mkF m 36 #[.val (.ref a), .val (.ref b), .val (.int (Int32.ofNat o)), .val (.int (Int32.ofNat len)), .val .null, .unset] [.int (Int32.ofNat len), .int (Int32.ofNat o), .ref b])) rfl (by rw [hml]; rfl) c7 (argsL := [.ref b, .int (Int32.ofNat o), .int (Int32.ofNat len)]) (rest := []) rfl rfl (by show 2 * 0 + 0 ≤ _; decide) (hb hbytes d36) (⟨rfl, hA.mv X5.warmed.alike hh5, l1, l2, hp⟩)
  obtain ⟨e8, z8⟩ := E8
  obtain ⟨rfl, N, n1, n2, n3, n4, n5, n6⟩ := NewArr.mv _ T5 s _ _ hh5.symm (Vm.Alike.refl _) rfl e8
  rw [hh5] at z8
  have hB1 := hB.keep X8.warmed.alike (n6 _ _ hB.1)
  have hne : s.heap.size ≠ a := (Nat.ne_of_lt (Array.getElem?_eq_some_iff.mp hB.1).1).symm
  have c9 : Steps p.tables e below (s₁.setTop (entryFrame m #[.ref a, .ref b, .int (Int32.ofNat o), .int (Int32.ofNat len), .null] 6)) (T8.setTop (mkF m 39 #[.val (.ref a), .val (.ref b), .val (.int (Int32.ofNat o)), .val (.int (Int32.ofNat len)), .val .null, .unset] [.ref s.heap.size])) := g8
  have c10 : Steps p.tables e below (s₁.setTop (entryFrame m #[.ref a, .ref b, .int (Int32.ofNat o), .int (Int32.ofNat len), .null] 6)) (T8.setTop (mkF m 45 #[.val (.ref a), .val (.ref b), .val (.int (Int32.ofNat o)), .val (.int (Int32.ofNat len)), .val .null, .val (.ref s.heap.size)] [.int (Int32.ofNat N.slots.size), .ref s.heap.size, .ref a])) := by
    have hc : Steps p.tables e below (s₁.setTop (entryFrame m #[.ref a, .ref b, .int (Int32.ofNat o), .int (Int32.ofNat len), .null] 6)) (T8.setTop (mkF m 45 #[.val (.ref a), .val (.ref b), .val (.int (Int32.ofNat o)), .val (.int (Int32.ofNat len)), .val .null, .val (.ref s.heap.size)] [.int (Int32.ofNat len), .ref s.heap.size, .ref a])) := c9.trans (by
      refine XS.astore X8.here hexec rfl (hb hbytes d39) rfl rfl rfl ?_
      refine XS.aloadN X8.here hexec rfl (hb hbytes d41) rfl rfl ?_
      refine XS.aload X8.here hexec rfl (hb hbytes d42) rfl rfl ?_
      refine XS.iloadN X8.here hexec rfl (hb hbytes d44) rfl ?_
      exact Steps.refl _)
    rw [n4]; exact hc
  obtain ⟨v11, T11, X11, E11, g11⟩ := X8.callS hexec (CodL.law l s.heap.size N) hown (wks W (staticW "java/lang/String" 47 CodL.yN)) (wk W CodL.tab) (W := 1) (Nat.le_of_ble_eq_true rfl) (Nat.le_of_ble_eq_true rfl) (Nat.le_refl _) (by show 0 + len + 0 ≤ len; omega) (g := (mkF m 45 #[.val (.ref a), .val (.ref b), .val (.int (Int32.ofNat o)), .val (.int (Int32.ofNat len)), .val .null, .val (.ref s.heap.size)] [.int (Int32.ofNat N.slots.size), .ref s.heap.size, .ref a])) rfl (by rw [hml]; rfl) c10 (argsL := [.ref s.heap.size, .int (Int32.ofNat N.slots.size)]) (rest := [.ref a]) rfl rfl (by show 2 * 0 + (1 + 0) ≤ _; decide) (hb hbytes d45) (⟨rfl, n1⟩)
  obtain ⟨rfl, q11⟩ := E11
  have hB11 := hB1.mv (X8.warmed.alike.symm.trans X11.warmed.alike) q11
  have c12 : Steps p.tables e below (s₁.setTop (entryFrame m #[.ref a, .ref b, .int (Int32.ofNat o), .int (Int32.ofNat len), .null] 6)) (T11.setTop (mkF m 48 #[.val (.ref a), .val (.ref b), .val (.int (Int32.ofNat o)), .val (.int (Int32.ofNat len)), .val .null, .val (.ref s.heap.size)] [.int 0, .ref a])) := g11
  obtain ⟨T13, X13, p13, bl13, sl13, st13⟩ := X11.finit hexec hown (wk W (.fieldLink "java/lang/String" 15 "java/lang/String" "coder" "B")) (Or.inr ⟨_, (wk W (.laysFinal "java/lang/String" "java/lang/String" "coder" "B"))⟩) (Or.inl ⟨rfl, hnm⟩) f2 (Or.inl rfl) hB11 (t := .byte) (by decide +kernel) rfl (g := (mkF m 48 #[.val (.ref a), .val (.ref b), .val (.int (Int32.ofNat o)), .val (.int (Int32.ofNat len)), .val .null, .val (.ref s.heap.size)] [.int 0, .ref a])) rfl (rest := []) rfl (hb hbytes d48)
  have c14 : Steps p.tables e below (s₁.setTop (entryFrame m #[.ref a, .ref b, .int (Int32.ofNat o), .int (Int32.ofNat len), .null] 6)) (T13.setTop (mkF m 54 #[.val (.ref a), .val (.ref b), .val (.int (Int32.ofNat o)), .val (.int (Int32.ofNat len)), .val .null, .val (.ref s.heap.size)] [.ref s.heap.size, .ref a])) := (c12.trans (st13 _ (Steps.refl _))).trans (by
    refine XS.aloadN X13.here hexec rfl (hb hbytes d51) rfl rfl ?_
    refine XS.aload X13.here hexec rfl (hb hbytes d52) rfl rfl ?_
    exact Steps.refl _)
  obtain ⟨T15, X15, p15, bl15, sl15, st15⟩ := X13.finit hexec hown (wk W (.fieldLink "java/lang/String" 9 "java/lang/String" "value" "[B")) (Or.inr ⟨_, (wk W (.laysFinal "java/lang/String" "java/lang/String" "value" "[B"))⟩) (Or.inl ⟨rfl, hnm⟩) f1 (Or.inl rfl) bl13 (t := (.array .byte)) (by decide +kernel) rfl (g := (mkF m 54 #[.val (.ref a), .val (.ref b), .val (.int (Int32.ofNat o)), .val (.int (Int32.ofNat len)), .val .null, .val (.ref s.heap.size)] [.ref s.heap.size, .ref a])) rfl (rest := []) rfl (hb hbytes d54)
  have c16 : Steps p.tables e below (s₁.setTop (entryFrame m #[.ref a, .ref b, .int (Int32.ofNat o), .int (Int32.ofNat len), .null] 6)) (T15.setTop (mkF m 57 #[.val (.ref a), .val (.ref b), .val (.int (Int32.ofNat o)), .val (.int (Int32.ofNat len)), .val .null, .val (.ref s.heap.size)] [])) := c14.trans (st15 _ (Steps.refl _))
  have ap := apart (Or.inr ⟨_, (wk W (.laysFinal "java/lang/String" "java/lang/String" "value" "[B"))⟩) (Or.inr ⟨_, (wk W (.laysFinal "java/lang/String" "java/lang/String" "coder" "B"))⟩) f1 f2 (t₁ := .array .byte) (t₂ := .byte) (by decide +kernel) (by decide +kernel) (by decide)
  have al := X8.warmed.alike.symm.trans X15.warmed.alike
  have n7 : T11.heap[s.heap.size]? = some N := by rw [q11]; exact n1.1
  exact ⟨T15, none, _, _, _, X15, by simp, rfl, by omega, (fun _ => rfl), ⟨rfl, _, N, bl15, ((Same.refl D _).set _ (by simp)).set _ (by simp), sl15, (Cell.slots_setSlot_ne _ ap).trans sl13, n1.keep al (p15.other hne (p13.other hne n7)), n2, by rw [al.findClass]; exact n3, n4, n5, fun y c h1 h2 => p15.other h1 (p13.other h1 (by rw [q11]; exact n6 y c h2)), by rw [p15.2.2, p13.2.2, q11]; exact z8⟩, fun fs hl => c16.trans (X15.returnOut hexec hret (hb hbytes d57) hl)⟩
end New4
namespace New1
def yN : MethodName := ⟨"java/lang/String", "<init>", "([C)V"⟩
abbrev yB : ByteArray := jdk_42_method_3_code
theorem d0 : decode yB 0 = .ok (.aload_n 0, 1) := by decide +kernel
theorem d1 : decode yB 1 = .ok (.aload_n 1, 1) := by decide +kernel
theorem d2 : decode yB 2 = .ok (.iconst 0, 1) := by decide +kernel
theorem d3 : decode yB 3 = .ok (.aload_n 1, 1) := by decide +kernel
theorem d4 : decode yB 4 = .ok (.arraylength, 1) := by decide +kernel
theorem d5 : decode yB 5 = .ok (.aconst_null, 1) := by decide +kernel
theorem d6 : decode yB 6 = .ok (.invokespecial 27, 3) := by decide +kernel
theorem d9 : decode yB 9 = .ok (.return_, 1) := by decide +kernel
def site : List Cond := [New4.tab] ++ initW "java/lang/String" 27 New4.yN
def tab : Cond := tabOf yN yB 2 none site
def P (a : Addr) (D : Cell) (fV fC : Field) (b : Addr) (A : Cell) (z : Int32) (args : Array Value) (s : State) : Prop := args = #[.ref a, .ref b] ∧ Blank "java/lang/String" a D s ∧ Found "java/lang/String" "value" "[B" fV s ∧ Found "java/lang/String" "coder" "B" fC s ∧ Ch b A s ∧ StaticIs s "java/lang/String" "COMPACT_STRINGS" "Z" (.int z) ∧ ¬ z = 0 ∧ 0 < A.slots.size ∧ A.slots.size ≤ 536870912 ∧ ∀ i, i < A.slots.size → ¬ 255 < cv A i
def E (a : Addr) (D : Cell) (fV fC : Field) (A : Cell) (r : Option Value) (s u : State) : Prop := Got a D fV fC A 0 A.slots.size r s u
/-- new String(chars), not empty, no char above 255: a Latin-1 String of their low bytes -/
theorem law (l : Launch) (a : Addr) (D : Cell) (fV fC : Field) (b : Addr) (A : Cell) (z : Int32) : Law l yN 2 1 3 52 yB 2 none site (P a D fV fC b A z) (E a D fV fC A) [⟨a, fC.slot⟩, ⟨a, fV.slot⟩] 1 A.slots.size := by
  refine Law.of_walk (plainFor_of_name (by decide +kernel)) (by decide +kernel) (by decide +kernel) (by decide) (fun _ _ h => by rw [h.1]; rfl) (fun _ U U' hal hh h => ⟨h.1, h.2.1.mv hal hh, h.2.2.1.al hal, h.2.2.2.1.al hal, h.2.2.2.2.1.mv hal hh, h.2.2.2.2.2.1.there hal hh, h.2.2.2.2.2.2⟩) (fun r U U' V V' h1 hal h2 h => Got.mv r U U' V V' h1 hal h2 h) ?_
  intro p e s m args below meth c s₁ X0 hexec hbytes hml hret hlk hnm hown hh0 W hP
  obtain ⟨rfl, hB, f1, f2, hA, s1, hz, l0, l2, hp⟩ := hP
  have c1 : Steps p.tables e below (s₁.setTop (entryFrame m #[.ref a, .ref b] 2)) (s₁.setTop (mkF m 0 #[.val (.ref a), .val (.ref b)] [])) := entry rfl
  have c2 : Steps p.tables e below (s₁.setTop (entryFrame m #[.ref a, .ref b] 2)) (s₁.setTop (mkF m 6 #[.val (.ref a), .val (.ref b)] [.null, .int (Int32.ofNat A.slots.size), .int 0, .ref b, .ref a])) := c1.trans (by
    refine XS.aloadN X0.here hexec rfl (hb hbytes d0) rfl rfl ?_
    refine XS.aloadN X0.here hexec rfl (hb hbytes d1) rfl rfl ?_
    refine iconstV X0.here hexec rfl 0 (hb hbytes d2) (by decide) ?_
    refine XS.aloadN X0.here hexec rfl (hb hbytes d3) rfl rfl ?_
    refine X0.alen hexec (hA.1.mv X0.warmed.alike hh0) rfl rfl (hb hbytes d4) ?_
    refine XS.aconstNull X0.here hexec rfl (hb hbytes d5) ?_
    exact Steps.refl _)
  obtain ⟨v3, T3, X3, E3, g3⟩ := X0.callN hexec (New4.law l a D fV fC b A z 0 A.slots.size) rfl hown (wks W (initW "java/lang/String" 27 New4.yN)) (W New4.tab (by simp only [site, List.mem_cons, List.mem_append, true_or, or_true])) (W := 0) (Nat.le_of_ble_eq_true rfl) (Nat.le_of_ble_eq_true rfl) (Nat.le_refl _) (by show 0 + A.slots.size ≤ A.slots.size; omega) (g := (mkF m 6 #[.val (.ref a), .val (.ref b)] [.null, .int (Int32.ofNat A.slots.size), .int (Int32.ofNat 0), .ref b, .ref a])) rfl (by rw [hml]; rfl) c2 (argsL := [.ref b, .int (Int32.ofNat 0), .int (Int32.ofNat A.slots.size), .null]) (rest := []) rfl rfl (by show 2 * 0 + 0 ≤ _; decide) (hb hbytes d6) (⟨rfl, hB.mv X0.warmed.alike hh0, f1.al X0.warmed.alike, f2.al X0.warmed.alike, hA.mv X0.warmed.alike hh0, s1.there X0.warmed.alike hh0, hz, l0, by omega, l2, fun i hi => by rw [Nat.zero_add]; exact hp i hi⟩)
  have e0 := Got.mv _ s₁ s _ _ hh0.symm (Vm.Alike.refl _) rfl E3
  obtain rfl := e0.1
  have c4 : Steps p.tables e below (s₁.setTop (entryFrame m #[.ref a, .ref b] 2)) (T3.setTop (mkF m 9 #[.val (.ref a), .val (.ref b)] [])) := g3
  exact ⟨T3, none, _, _, _, X3, by simp, rfl, by omega, (fun _ => rfl), e0, fun fs hl => c4.trans (X3.returnOut hexec hret (hb hbytes d9) hl)⟩
theorem pays {l : Launch} {R : Room} {p : Program} {e : Env} {below : List Frame} {s : State} {sargs : Array Value} {len W : Nat} (a : Addr) (D : Cell) (fV fC : Field) (b : Addr) (A : Cell) (z : Int32) (htab : tab.before sargs s = true) (hfr : 4 ≤ R.frames) (hlo : W + 65 ≤ R.locals) :
    Back l R p e below s sargs yN len W (fun A₁ a₁ => A₁.cells + 1 ≤ R.cells ∧ A₁.slots + A.slots.size ≤ R.slots ∧ P a D fV fC b A z a₁ A₁.U) (fun A₁ _ v₁ B₁ => E a D fV fC A v₁ A₁.U B₁.U ∧ B₁.locs = A₁.locs ++ [⟨a, fC.slot⟩, ⟨a, fV.slot⟩] ∧ B₁.cells = A₁.cells + 1 ∧ B₁.slots = A₁.slots + A.slots.size) :=
  (law l a D fV fC b A z).pays htab hfr (by omega)
end New1
end StrChars
namespace StrChars.Road
open Jvm Sem ClassFile Op Lib Jvm.Stand Jvm.Free Jvm.Free.XT
open Jvm.Lib.Cold (StaticIs)
abbrev ST : String := "java/lang/String"
/-- every table word that New1's law asks, flat -/
abbrev words : List Jvm.Cond := [.code New1.yN New1.yB 2 none, .initialized ST, .methodLink ST 27 New4.yN, .instanceMethod New4.yN,
  .code New4.yN New4.yB 6 none, .fieldLink ST 38 ST "COMPACT_STRINGS" "Z", .laysFinal ST ST "value" "[B", .fieldLink ST 9 ST "value" "[B", .laysFinal ST ST "coder" "B", .fieldLink ST 15 ST "coder" "B",
  .methodLink ST 1 Lib.objectInit, .instanceMethod Lib.objectInit, .code Lib.objectInit ⟨#[0xb1]⟩ 1 none, .methodLink ST 177 Cmp3.yN, .static Cmp3.yN, .methodLink ST 47 CodL.yN, .static CodL.yN,
  .code Cmp3.yN Cmp3.yB 6 (some (.array .byte)), .initialized U16, .arrayClass .byte, .methodLink U16 115 Cmp5.yN, .static Cmp5.yN, .code Cmp5.yN Cmp5.yB 7 (some .int), .code CodL.yN CodL.yB 2 (some .byte)]
theorem tab_of {a : Array Value} {s : State} (h : ∀ w ∈ words, w.before a s = true) : New1.tab.before a s = true := by
  have h5 : Cmp5.tab.before a s = true := unparts (wk h (.code Cmp5.yN Cmp5.yB 7 (some .int))) (wks h (.initialized Cmp5.yN.cls :: Cmp5.site))
  have hc : CodL.tab.before a s = true := unparts (wk h (.code CodL.yN CodL.yB 2 (some .byte))) (wks h (.initialized CodL.yN.cls :: CodL.site))
  have q5 : ∀ w ∈ Cmp5.tab :: words, w.before a s = true := fun w hw => (List.mem_cons.mp hw).elim (fun e => e ▸ h5) (h w)
  have h3 : Cmp3.tab.before a s = true := unparts (wk q5 (.code Cmp3.yN Cmp3.yB 6 (some (.array .byte)))) (wks q5 (.initialized Cmp3.yN.cls :: Cmp3.site))
  have q3 : ∀ w ∈ Cmp3.tab :: CodL.tab :: words, w.before a s = true := fun w hw => (List.mem_cons.mp hw).elim (fun e => e ▸ h3) fun hw => (List.mem_cons.mp hw).elim (fun e => e ▸ hc) (h w)
  have h4 : New4.tab.before a s = true := unparts (wk q3 (.code New4.yN New4.yB 6 none)) (wks q3 (.initialized New4.yN.cls :: New4.site))
  have q4 : ∀ w ∈ New4.tab :: words, w.before a s = true := fun w hw => (List.mem_cons.mp hw).elim (fun e => e ▸ h4) (h w)
  exact unparts (wk q4 (.code New1.yN New1.yB 2 none)) (wks q4 (.initialized New1.yN.cls :: New1.site))
/-- the words ride from the start Z to the walk's own state -/
theorem moved {Z s : State} {a0 args : Array Value} (hZ : Z.Warmed39 s.vm) (hw : ∀ d ∈ words, d.before a0 Z = true) : ∀ d ∈ words, d.before args s = true := fun d hd => by
  have q := hw d hd
  have t : ∀ d ∈ words, d = .arrayClass .byte ∨ (d.onTables && d.keepsFace) = true := by decide +kernel
  rcases t d hd with rfl | t
  · exact RoadKit.mvA hZ q
  · exact RoadKit.mv hZ q t
/-- WHAT COMES BACK, over the tables of the start Z: h the heap at the call, h' behind it -/
def Q (Z : State) (x : Addr) (A : Cell) (h : Heap) (v : Option Value) (h' : Heap) (L : List Loc) : Prop := v = none ∧ (∀ y ∈ L, y.base = x) ∧ RoadKit.Keep h h' [x] ∧ h'.size = h.size + 1 ∧ RoadKit.Exa Z h' x ST ∧ RoadKit.Fld Z h' x ST "value" "[B" (.ref h.size) ∧ RoadKit.Fld Z h' x ST "coder" "B" (.int 0) ∧
  (∃ V : Cell, RoadKit.Arr Z h' h.size V .byte ∧ V.vm = .none ∧ Z.vm.findClass "[B" = some V.cls ∧ V.slots.size = A.slots.size ∧ ∀ j, j < A.slots.size → V.slots[j]? = some (.int (lo8 (cv A j)))) ∧
  ∀ (O n d : String) (w : Value), RoadKit.Fld Z h x O n d w → RoadKit.slotOf Z O n d ≠ RoadKit.slotOf Z ST "value" "[B" → RoadKit.slotOf Z O n d ≠ RoadKit.slotOf Z ST "coder" "B" → RoadKit.Fld Z h' x O n d w
/-- **new String(chars) AT A CALL, IN THE ROAD'S FORM**: for specialBack behind newO: x the fresh String, b the char[] with the cell A -/
theorem back {p : Program} {l : Launch} {e : Env} {R : Room} {s : State} {args : Array Value} {below : List Frame} {len W : Nat} {Z : State} {a0 : Array Value} {h : Heap} (hZ : Z.Warmed39 s.vm) (hw : ∀ d ∈ words, d.before a0 Z = true) {kI : Nat} (wi : (Jvm.Cond.instantiable ST kI).before a0 Z = true)
    {x b : Addr} {A : Cell} {z : Int32} {v0 c0 : Value} (E : RoadKit.Exa Z h x ST) (V : RoadKit.Fld Z h x ST "value" "[B" v0) (C : RoadKit.Fld Z h x ST "coder" "B" c0) (K : RoadKit.Arr Z h b A .char) (hty : Typed .char A) (S : RoadKit.Sta Z h ST "COMPACT_STRINGS" "Z" (.int z)) (hz : ¬ z = 0)
    (l0 : 0 < A.slots.size) (l2 : A.slots.size ≤ 536870912) (hp : ∀ i, i < A.slots.size → ¬ 255 < cv A i) (hfr : 4 ≤ R.frames) (hlo : W + 65 ≤ R.locals) :
    Back l R p e below s args New1.yN len W (fun P a => a = #[.ref x, .ref b] ∧ P.U.heap = h ∧ P.cells + 1 ≤ R.cells ∧ P.slots + A.slots.size ≤ R.slots)
      (fun P _ v B => ∃ L, Q Z x A h v B.U.heap L ∧ B.locs = P.locs ++ L ∧ B.cells = P.cells + 1 ∧ B.slots = P.slots + A.slots.size) := by
  intro m meth c P g ig mk a X hg hsize hdg hW hn hp'
  obtain ⟨rfl, rfl, r1, r2⟩ := hp'
  have al : Z.vm.Alike P.U.vm := hZ.alike.trans X.warmed.alike
  obtain ⟨D, cfV, kV, iV, fV, hD, gV, stV, knV, obV, asV, slV⟩ := id V
  obtain ⟨D', cfC, kC, iC, fC, hD', gC, stC, -, -, asC, slC⟩ := id C
  cases hD.symm.trans hD'
  obtain ⟨D2, kD, e1, e2, e3, e4, e5⟩ := id E
  cases hD.symm.trans e1
  obtain ⟨c2, k2, i1, i2, i3, -⟩ := Cond.instantiable_spec wi
  cases e2.symm.trans i1
  cases e3.symm.trans i2
  obtain ⟨kU, u1, u2⟩ := al.2.2 _ _ e3
  have hB : Blank ST x D P.U := ⟨hD, ⟨knV, fun q hq => by rw [hq] at obV; cases obV⟩, by rw [al.findClass]; exact e2, kU, u1, by rw [u2]; exact i3, by rw [u2]; exact e5 i3⟩
  have F1 : Found ST "value" "[B" fV P.U := ⟨SBG.found_only al ⟨cfV, kV, iV, gV⟩, stV⟩
  have F2 : Found ST "coder" "B" fC P.U := ⟨SBG.found_only al ⟨cfC, kC, iC, gC⟩, stC⟩
  have hA : Ch b A P.U := ⟨⟨K.1, State.isArrayOf_alike al K.2.1, K.2.2, by omega⟩, hty⟩
  have hS : StaticIs P.U ST "COMPACT_STRINGS" "Z" (.int z) := by
    obtain ⟨cfS, iS, kS, fS, st, cS, t1, t2, t3, t4, t5, t6, t7⟩ := S
    exact StaticIs.there (s := { Z with heap := P.U.heap }) ⟨cfS, iS, kS, fS, st, cS, t1, t2, t3, t4, t5, (fun q => by rw [q] at t6; cases t6), t7⟩ al rfl
  obtain ⟨v, B, X', ⟨⟨hv, E', V', q1, q2, q3, q4, q5, q6, q7, q8, q9, q10, q11⟩, hl, hc, hs⟩, st⟩ := New1.pays x D fV fC b A z (tab_of (moved hZ hw)) hfr hlo m meth c P g ig mk _ X hg hsize hdg hW hn ⟨r1, r2, rfl, hB, F1, F2, hA, hS, hz, l0, l2, hp⟩
  have al' : Z.vm.Alike B.U.vm := hZ.alike.trans X'.warmed.alike
  have hsz : E'.slots.size = D.slots.size := by
    obtain ⟨-, -, -, kB, w1, w2, w3⟩ := q1
    obtain ⟨kB', y1, y2⟩ := al'.2.2 _ _ e3
    rw [q2.2.1] at w1
    cases w1.symm.trans y1
    rw [w3, e5 i3, y2]
  refine ⟨v, B, X', ⟨_, ⟨hv, ?_, ⟨by omega, fun y cy hy hn' => q10 y cy (by simpa using hn') hy, fun y cy hy => ?_⟩, q11, ⟨E', _, q1.1, by rw [q2.2.1]; exact e2, by rw [q2.2.1]; exact e3, by rw [q2.1]; exact obV, fun _ => by rw [hsz]; exact e5 i3⟩,
    ⟨E', cfV, kV, iV, fV, q1.1, gV, stV, by rw [q2.1]; exact knV, by rw [q2.1]; exact obV, by rw [q2.2.1]; exact asV, q3⟩, ⟨E', cfC, kC, iC, fC, q1.1, gC, stC, by rw [q2.1]; exact knV, by rw [q2.1]; exact obV, by rw [q2.2.1]; exact asC, q4⟩,
    ⟨V', ⟨q5.1, State.isArrayOf_alike al'.symm q5.2.1, q5.2.2.1⟩, q6, by rw [← al'.findClass]; exact q7, q8, fun j hj => by have := q9 j hj; rwa [Nat.zero_add] at this⟩, fun O n d w F n1 n2 => ?_⟩, hl, hc, hs⟩, st⟩
  · intro y hy
    simp only [List.mem_cons, List.not_mem_nil, or_false] at hy
    rcases hy with rfl | rfl <;> rfl
  · by_cases q : y = x
    · subst q
      cases hD.symm.trans hy
      exact ⟨E', q1.1, q2.2.1, q2.1, hsz⟩
    · exact ⟨cy, q10 y cy q hy, rfl, rfl, rfl⟩
  · obtain ⟨D3, cf, k, i, f, g1, g2, g3, g4, g5, g6, g7⟩ := F
    cases hD.symm.trans g1
    simp only [RoadKit.slotOf, g2, gV, gC, Option.map_some, Option.getD_some] at n1 n2
    exact ⟨E', cf, k, i, f, q1.1, g2, g3, by rw [q2.1]; exact g4, by rw [q2.1]; exact g5, by rw [q2.2.1]; exact g6, by rw [q2.2.2 f.slot (by simp [n1, n2])]; exact g7⟩
end StrChars.Road
namespace StrChars.Road
open Jvm Sem ClassFile Op Lib Jvm.Stand Jvm.Free Jvm.Free.XT
/-- WHAT COMES BACK, the byte[] as a list of values -/
def QA (Z : State) (x : Addr) (zn : Int32) (cs : List Int32) (h : Heap) (v : Option Value) (h' : Heap) (L : List Loc) : Prop := v = none ∧ (∀ y ∈ L, y.base = x) ∧ RoadKit.Keep h h' [x] ∧ h'.size = h.size + 1 ∧ RoadKit.Exa Z h' x ST ∧ RoadKit.Fld Z h' x ST "value" "[B" (.ref h.size) ∧ RoadKit.Fld Z h' x ST "coder" "B" (.int 0) ∧
  (∃ kb, Z.vm.findClass "[B" = some kb ∧ RoadKit.Arv Z h' h.size kb .byte zn (cs.map fun c => .int (lo8 c)) (.int 0)) ∧
  ∀ (O n d : String) (w : Value), RoadKit.Fld Z h x O n d w → RoadKit.slotOf Z O n d ≠ RoadKit.slotOf Z ST "value" "[B" → RoadKit.slotOf Z O n d ≠ RoadKit.slotOf Z ST "coder" "B" → RoadKit.Fld Z h' x O n d w
/-- **new String(chars) AT A CALL, THE ARRAYS AS LISTS**: the char[] at b holds cs, not empty, no char above 255 -/
theorem backArv {p : Program} {l : Launch} {e : Env} {R : Room} {s : State} {args : Array Value} {below : List Frame} {len W : Nat} {Z : State} {a0 : Array Value} {h : Heap} (hZ : Z.Warmed39 s.vm) (hw : ∀ d ∈ words, d.before a0 Z = true) {kI : Nat} (wi : (Jvm.Cond.instantiable ST kI).before a0 Z = true)
    {x b : Addr} {k : ClassId} {zn z : Int32} {cs : List Int32} {dv v0 c0 : Value} (E : RoadKit.Exa Z h x ST) (V : RoadKit.Fld Z h x ST "value" "[B" v0) (C : RoadKit.Fld Z h x ST "coder" "B" c0) (K : RoadKit.Arv Z h b k .char zn (cs.map Value.int) dv) (S : RoadKit.Sta Z h ST "COMPACT_STRINGS" "Z" (.int z)) (hz : ¬ z = 0)
    (hlen : zn.toNatClampNeg = cs.length) (h0 : 0 < cs.length) (hbig : cs.length ≤ 536870912) (hall : ∀ c ∈ cs, ¬ 255 < c) (hfr : 4 ≤ R.frames) (hlo : W + 65 ≤ R.locals) :
    Back l R p e below s args New1.yN len W (fun P a => a = #[.ref x, .ref b] ∧ P.U.heap = h ∧ P.cells + 1 ≤ R.cells ∧ P.slots + cs.length ≤ R.slots)
      (fun P _ v B => ∃ L, QA Z x zn cs h v B.U.heap L ∧ B.locs = P.locs ++ L ∧ B.cells = P.cells + 1 ∧ B.slots = P.slots + cs.length) := by
  obtain ⟨A, K1, K2, K3, K4, K5, K6⟩ := K
  have e : A.slots.size = cs.length := K3.trans hlen
  have hat : ∀ (i : Nat) (hi : i < cs.length), A.slots[i]? = some (.int cs[i]) := fun i hi => by rw [K5 i (by omega)]; simp [List.getD_eq_getElem?_getD, hi]
  have hcv : ∀ (i : Nat) (hi : i < cs.length), cv A i = cs[i] := fun i hi => by unfold cv; rw [hat i hi]
  have hty : Typed .char A := fun i v hv => by
    have hi : i < A.slots.size := (Array.getElem?_eq_some_iff.mp hv).1
    have q := K5 i hi
    rw [hv] at q
    rw [Option.some.inj q]
    exact K6 i hi
  refine Back.mono (back hZ hw wi E V C K1 hty S hz (by omega) (by omega) (fun i hi => by rw [hcv i (by omega)]; exact hall _ (List.getElem_mem _)) hfr hlo) (fun P a hp => ⟨hp.1, hp.2.1, hp.2.2.1, by rw [e]; exact hp.2.2.2⟩) (fun P a v B hp hq => ?_)
  obtain ⟨L, ⟨q1, q2, q3, q4, q5, q6, q7, ⟨V', v1, v2, v3, v4, v5⟩, q9⟩, hl, hc, hs⟩ := hq
  refine ⟨L, ⟨q1, q2, q3, q4, q5, q6, q7, ⟨V'.cls, v3, V', v1, rfl, by rw [v4, e, hlen], K4, fun i hi => ?_, fun i hi => ?_⟩, q9⟩, hl, hc, by rw [hs, e]⟩
  · have hi' : i < cs.length := by omega
    rw [v5 i (by omega), hcv i hi']; simp [List.getD_eq_getElem?_getD, hi']
  · have hi' : i < cs.length := by omega
    simp only [List.getD_eq_getElem?_getD, List.getElem?_map, List.getElem?_eq_getElem hi', Option.map_some, Option.getD_some]
    exact fits_lo8 _
end StrChars.Road
namespace StrChars.Road
open Jvm Sem ClassFile Op Lib Jvm.Stand Jvm.Free Jvm.Free.XT
/-- WHAT COMES BACK, in the writer's own shape -/
def QV (Z : State) (x : Addr) (N : Int32) (bs : List Int32) (h : Heap) (n0 : Nat) (v : Option Value) (h' : Heap) (L : List Loc) : Prop := v = none ∧ RoadKit.Fr n0 L ∧ RoadKit.Keep h h' [x] ∧ RoadKit.Exa Z h' x ST ∧ RoadKit.Fld Z h' x ST "coder" "B" (.int 0) ∧
  ∃ (t : Addr) (kb : ClassId), n0 ≤ t ∧ h.size ≤ t ∧ ¬ t = x ∧ RoadKit.Fld Z h' x ST "value" "[B" (.ref t) ∧ RoadKit.Arv Z h' t kb .byte N (bs.map Value.int) (.int 0)
/-- **new String(chars) AT A CALL, FOR THE WRITER**: a char[] of n known ints, each 0 to 255 -/
theorem backV {p : Program} {l : Launch} {e : Env} {R : Room} {s : State} {args : Array Value} {below : List Frame} {len W : Nat} {Z : State} {a0 : Array Value} {h : Heap} (hZ : Z.Warmed39 s.vm) (hw : ∀ d ∈ words, d.before a0 Z = true) {kI : Nat} (wi : (Jvm.Cond.instantiable ST kI).before a0 Z = true)
    {x b : Addr} {kC : ClassId} {cs bs : List Int32} {d v0 c0 : Value} {z N : Int32} {n n0 : Nat} (hx0 : n0 ≤ x) (hh0 : n0 ≤ h.size) (E : RoadKit.Exa Z h x ST) (V : RoadKit.Fld Z h x ST "value" "[B" v0) (C : RoadKit.Fld Z h x ST "coder" "B" c0) (K : RoadKit.Arv Z h b kC .char N (cs.map Value.int) d) (S : RoadKit.Sta Z h ST "COMPACT_STRINGS" "Z" (.int z)) (hz : ¬ z = 0)
    (hn : cs.length = n) (hN : N = Int32.ofNat n) (l0 : 0 < n) (l2 : n ≤ 4000) (hp : ∀ c ∈ cs, ¬ c < 0 ∧ ¬ (255 : Int32) < c) (hb : bs = cs.map (fun c => c.toInt8.toInt32)) (hfr : 4 ≤ R.frames) (hlo : W + 65 ≤ R.locals) :
    Back l R p e below s args (⟨"java/lang/String", "<init>", "([C)V"⟩ : MethodName) len W (fun P a => a = #[.ref x, .ref b] ∧ P.U.heap = h ∧ P.cells + 1 ≤ R.cells ∧ P.slots + n ≤ R.slots)
      (fun P _ v B => ∃ L, QV Z x N bs h n0 v B.U.heap L ∧ B.locs = P.locs ++ L ∧ B.cells = P.cells + 1 ∧ B.slots = P.slots + n) := by
  subst hn hN hb
  refine Back.mono (backArv hZ hw wi E V C K S hz (n32 (by omega)) l0 (by omega) (fun c hc => (hp c hc).2) hfr hlo) (fun P a hp => hp) (fun P a v B hp hq => ?_)
  obtain ⟨L, ⟨q1, q2, q3, q4, q5, q6, q7, ⟨kb, v1, v2⟩, q9⟩, hl, hc, hs⟩ := hq
  exact ⟨L, ⟨q1, fun y hy => by rw [q2 y hy]; exact hx0, q3, q5, q7, h.size, kb, hh0, Nat.le_refl _, Nat.ne_of_gt E.lt, q6, by rw [List.map_map]; exact v2⟩, hl, hc, hs⟩
end StrChars.Road
end Jvm.Pilot.@@N@@
namespace Jvm.Pilot.@@N@@
open Jvm Jvm.ClassFile Sem Op Lib Jvm.Free Jvm.Stand Jvm.LawKit Jvm.RoadKit Bundle Jvm.Pilot.@@N@@.Jvm.D
def own_G (p : Program) (e : Env) (below : List Frame) (s : State) (Q : Option Value → Heap → List Loc → Prop) (k n : Nat) (A : State) : Prop :=
  ∃ s₂ o, Steps p.tables e below A s₂ ∧ s₂.status = .running ∧ Ended s₂ below o ∧ ∃ v L, o = .returned v ∧ Q v s₂.heap L ∧ FrameEnd s o s₂ L k n
theorem own_st {p : Program} {e : Env} {below : List Frame} {s : State} {Q : Option Value → Heap → List Loc → Prop} {k n : Nat} {A B : State} (f : ∀ t, Steps p.tables e below B t → Steps p.tables e below A t) (h : own_G p e below s Q k n B) : own_G p e below s Q k n A := by
  obtain ⟨t, o, h1, h2⟩ := h; exact ⟨t, o, f t h1, h2⟩
theorem own_tr {p : Program} {e : Env} {below : List Frame} {s : State} {Q : Option Value → Heap → List Loc → Prop} {k n : Nat} {A B : State} (f : Steps p.tables e below A B) (h : own_G p e below s Q k n B) : own_G p e below s Q k n A := own_st (fun _ => f.trans) h
theorem own_cast {p : Program} {e : Env} {below : List Frame} {s T : State} {Q : Option Value → Heap → List Loc → Prop} {k n : Nat} {g g' : JFrame} (q : g = g') (h : own_G p e below s Q k n (T.setTop g')) : own_G p e below s Q k n (T.setTop g) := q ▸ h
section OwnSteps
variable {p : Program} {l : Launch} {e : Env} {R : Room} {s : State} {m : MethodId} {args : Array Value} {below : List Frame} {meth : Method} {c : Code} {T : State} {locs : List Loc} {cells slots : Nat} {Q : Option Value → Heap → List Loc → Prop} {k n : Nat} {code : ByteArray} {pc : Nat} {Ls : Array Slot} {st : List Value} {Z : State} {a0 : Array Value} {h : Heap}
theorem own_retI (X : Stand p l e R s m args below meth c T locs cells slots) (hx : p.tables.exec = Jvm.exec) (hby : c.code = code) (hlk : meth.locks = false) (hret : meth.sig.returnType = some .int) {z : Int32} (hd : decode code pc = .ok (.ireturn, 1)) (hk : cells ≤ k) (hn : slots ≤ n) (hQ : Q (some (.int z)) T.heap locs) : own_G p e below s Q k n (T.setTop (mkF m pc Ls (.int z :: st))) := by
  obtain ⟨fs, hr, hrun, hended, hW, hsame⟩ := X.leave (v := some (.int z)) (fun h => by rw [hret] at h; cases h) hlk
  exact ⟨_, _, retOut X hx (t := .int) hret rfl (Or.inl ⟨rfl, Or.inl rfl, z, rfl⟩) (hb hby hd) hr, hrun, hended, _, _, rfl, hQ, ⟨_, rfl⟩, hW, hsame.mono hk hn⟩
theorem own_retJ (X : Stand p l e R s m args below meth c T locs cells slots) (hx : p.tables.exec = Jvm.exec) (hby : c.code = code) (hlk : meth.locks = false) (hret : meth.sig.returnType = some .long) {z : Int64} (hd : decode code pc = .ok (.lreturn, 1)) (hk : cells ≤ k) (hn : slots ≤ n) (hQ : Q (some (.long z)) T.heap locs) : own_G p e below s Q k n (T.setTop (mkF m pc Ls (.long z :: st))) := by
  obtain ⟨fs, hr, hrun, hended, hW, hsame⟩ := X.leave (v := some (.long z)) (fun h => by rw [hret] at h; cases h) hlk
  exact ⟨_, _, retOut X hx (t := .long) hret rfl (Or.inr (Or.inl ⟨rfl, rfl, z, rfl⟩)) (hb hby hd) hr, hrun, hended, _, _, rfl, hQ, ⟨_, rfl⟩, hW, hsame.mono hk hn⟩
theorem own_retD (X : Stand p l e R s m args below meth c T locs cells slots) (hx : p.tables.exec = Jvm.exec) (hby : c.code = code) (hlk : meth.locks = false) (hret : meth.sig.returnType = some .double) {z : UInt64} (hd : decode code pc = .ok (.dreturn, 1)) (hk : cells ≤ k) (hn : slots ≤ n) (hQ : Q (some (.double z)) T.heap locs) : own_G p e below s Q k n (T.setTop (mkF m pc Ls (.double z :: st))) := by
  obtain ⟨fs, hr, hrun, hended, hW, hsame⟩ := X.leave (v := some (.double z)) (fun h => by rw [hret] at h; cases h) hlk
  exact ⟨_, _, retOut X hx (t := .double) hret rfl (Or.inr (Or.inr (Or.inl ⟨rfl, rfl, z, rfl⟩))) (hb hby hd) hr, hrun, hended, _, _, rfl, hQ, ⟨_, rfl⟩, hW, hsame.mono hk hn⟩
theorem own_retA (X : Stand p l e R s m args below meth c T locs cells slots) (hx : p.tables.exec = Jvm.exec) (hby : c.code = code) (hlk : meth.locks = false) {ty : FieldType} (hret : meth.sig.returnType = some ty) (hty : ty.isReference = true) {z : Value} (hz : z.isRef = true) (hnz : narrow ty z = z) (hd : decode code pc = .ok (.areturn, 1)) (hk : cells ≤ k) (hn : slots ≤ n) (hQ : Q (some z) T.heap locs) : own_G p e below s Q k n (T.setTop (mkF m pc Ls (z :: st))) := by
  obtain ⟨fs, hr, hrun, hended, hW, hsame⟩ := X.leave (v := some z) (fun h => by rw [hret] at h; cases h) hlk
  exact ⟨_, _, retOut X hx (t := ty) hret hnz (Or.inr (Or.inr (Or.inr (Or.inr ⟨rfl, hty, hz⟩)))) (hb hby hd) hr, hrun, hended, _, _, rfl, hQ, ⟨_, rfl⟩, hW, hsame.mono hk hn⟩
theorem own_retN (X : Stand p l e R s m args below meth c T locs cells slots) (hx : p.tables.exec = Jvm.exec) (hby : c.code = code) (hlk : meth.locks = false) {t : FieldType} (hret : meth.sig.returnType = some t) (ht : t = .boolean ∨ t = .byte ∨ t = .char ∨ t = .short) {z : Int32} (hd : decode code pc = .ok (.ireturn, 1)) (hk : cells ≤ k) (hn : slots ≤ n) (hQ : Q (some (.int (nar t z))) T.heap locs) : own_G p e below s Q k n (T.setTop (mkF m pc Ls (.int z :: st))) := by
  obtain ⟨fs, hr, hrun, hended, hW, hsame⟩ := X.leave (v := some (.int (nar t z))) (fun h => by rw [hret] at h; cases h) hlk
  exact ⟨_, _, retN X hx (t := t) hret ht (hb hby hd) hr, hrun, hended, _, _, rfl, hQ, ⟨_, rfl⟩, hW, hsame.mono hk hn⟩
theorem own_ret0 (X : Stand p l e R s m args below meth c T locs cells slots) (hx : p.tables.exec = Jvm.exec) (hby : c.code = code) (hlk : meth.locks = false) (hret : meth.sig.returnType = none) (hd : decode code pc = .ok (.return_, 1)) (hk : cells ≤ k) (hn : slots ≤ n) (hQ : Q none T.heap locs) : own_G p e below s Q k n (T.setTop (mkF m pc Ls [])) := by
  obtain ⟨fs, hr, hrun, hended, hW, hsame⟩ := X.leave (v := none) (fun _ => rfl) hlk
  exact ⟨_, _, X.returnOut hx hret (hb hby hd) hr, hrun, hended, _, _, rfl, hQ, ⟨_, rfl⟩, hW, hsame.mono hk hn⟩
theorem own_iloadN (X : Stand p l e R s m args below meth c T locs cells slots) (hx : p.tables.exec = Jvm.exec) (hby : c.code = code) {kk : Fin 4} {v : Int32} (hd : decode code pc = .ok (.iload_n kk, 1)) (hl : Ls[kk.val]? = some (.val (.int v))) (h : own_G p e below s Q k n (T.setTop (mkF m (pc + 1) Ls (.int v :: st)))) : own_G p e below s Q k n (T.setTop (mkF m pc Ls st)) := own_st (fun _ => XS.iloadN X.here hx rfl (hb hby hd) hl) h
theorem own_iload (X : Stand p l e R s m args below meth c T locs cells slots) (hx : p.tables.exec = Jvm.exec) (hby : c.code = code) {kk : Nat} {v : Int32} (hd : decode code pc = .ok (.iload kk, 2)) (hl : Ls[kk]? = some (.val (.int v))) (h : own_G p e below s Q k n (T.setTop (mkF m (pc + 2) Ls (.int v :: st)))) : own_G p e below s Q k n (T.setTop (mkF m pc Ls st)) := own_st (fun _ => XS.iload X.here hx rfl (hb hby hd) hl) h
theorem own_lloadN (X : Stand p l e R s m args below meth c T locs cells slots) (hx : p.tables.exec = Jvm.exec) (hby : c.code = code) {kk : Fin 4} {v : Int64} (hd : decode code pc = .ok (.lload_n kk, 1)) (hl : Ls[kk.val]? = some (.val (.long v))) (h : own_G p e below s Q k n (T.setTop (mkF m (pc + 1) Ls (.long v :: st)))) : own_G p e below s Q k n (T.setTop (mkF m pc Ls st)) := own_st (fun _ => XS.lloadN X.here hx rfl (hb hby hd) hl) h
theorem own_lload (X : Stand p l e R s m args below meth c T locs cells slots) (hx : p.tables.exec = Jvm.exec) (hby : c.code = code) {kk : Nat} {v : Int64} (hd : decode code pc = .ok (.lload kk, 2)) (hl : Ls[kk]? = some (.val (.long v))) (h : own_G p e below s Q k n (T.setTop (mkF m (pc + 2) Ls (.long v :: st)))) : own_G p e below s Q k n (T.setTop (mkF m pc Ls st)) := own_st (fun _ => XS.lload X.here hx rfl (hb hby hd) hl) h
theorem own_dloadN (X : Stand p l e R s m args below meth c T locs cells slots) (hx : p.tables.exec = Jvm.exec) (hby : c.code = code) {kk : Fin 4} {v : UInt64} (hd : decode code pc = .ok (.dload_n kk, 1)) (hl : Ls[kk.val]? = some (.val (.double v))) (h : own_G p e below s Q k n (T.setTop (mkF m (pc + 1) Ls (.double v :: st)))) : own_G p e below s Q k n (T.setTop (mkF m pc Ls st)) := own_st (fun _ => XS.dloadN X.here hx rfl (hb hby hd) hl) h
theorem own_dload (X : Stand p l e R s m args below meth c T locs cells slots) (hx : p.tables.exec = Jvm.exec) (hby : c.code = code) {kk : Nat} {v : UInt64} (hd : decode code pc = .ok (.dload kk, 2)) (hl : Ls[kk]? = some (.val (.double v))) (h : own_G p e below s Q k n (T.setTop (mkF m (pc + 2) Ls (.double v :: st)))) : own_G p e below s Q k n (T.setTop (mkF m pc Ls st)) := own_st (fun _ => XS.dload X.here hx rfl (hb hby hd) hl) h
theorem own_aloadN (X : Stand p l e R s m args below meth c T locs cells slots) (hx : p.tables.exec = Jvm.exec) (hby : c.code = code) {kk : Fin 4} {v : Value} (hd : decode code pc = .ok (.aload_n kk, 1)) (hl : Ls[kk.val]? = some (.val v)) (hv : v.isRef = true) (h : own_G p e below s Q k n (T.setTop (mkF m (pc + 1) Ls (v :: st)))) : own_G p e below s Q k n (T.setTop (mkF m pc Ls st)) := own_st (fun _ => XS.aloadN X.here hx rfl (hb hby hd) hl hv) h
theorem own_aload (X : Stand p l e R s m args below meth c T locs cells slots) (hx : p.tables.exec = Jvm.exec) (hby : c.code = code) {kk : Nat} {v : Value} (hd : decode code pc = .ok (.aload kk, 2)) (hl : Ls[kk]? = some (.val v)) (hv : v.isRef = true) (h : own_G p e below s Q k n (T.setTop (mkF m (pc + 2) Ls (v :: st)))) : own_G p e below s Q k n (T.setTop (mkF m pc Ls st)) := own_st (fun _ => XS.aload X.here hx rfl (hb hby hd) hl hv) h
theorem own_istoreN (X : Stand p l e R s m args below meth c T locs cells slots) (hx : p.tables.exec = Jvm.exec) (hby : c.code = code) {kk : Fin 4} {v : Int32} {l' : Array Slot} (hd : decode code pc = .ok (.istore_n kk, 1)) (hl : storeLocals Ls kk.val (.int v) = some l') (h : own_G p e below s Q k n (T.setTop (mkF m (pc + 1) l' st))) : own_G p e below s Q k n (T.setTop (mkF m pc Ls (.int v :: st))) := own_st (fun _ => XS.istoreN X.here hx rfl (hb hby hd) rfl hl) h
theorem own_istore (X : Stand p l e R s m args below meth c T locs cells slots) (hx : p.tables.exec = Jvm.exec) (hby : c.code = code) {kk : Nat} {v : Int32} {l' : Array Slot} (hd : decode code pc = .ok (.istore kk, 2)) (hl : storeLocals Ls kk (.int v) = some l') (h : own_G p e below s Q k n (T.setTop (mkF m (pc + 2) l' st))) : own_G p e below s Q k n (T.setTop (mkF m pc Ls (.int v :: st))) := own_st (fun _ => XS.istore X.here hx rfl (hb hby hd) rfl hl) h
theorem own_lstoreN (X : Stand p l e R s m args below meth c T locs cells slots) (hx : p.tables.exec = Jvm.exec) (hby : c.code = code) {kk : Fin 4} {v : Int64} {l' : Array Slot} (hd : decode code pc = .ok (.lstore_n kk, 1)) (hl : storeLocals Ls kk.val (.long v) = some l') (h : own_G p e below s Q k n (T.setTop (mkF m (pc + 1) l' st))) : own_G p e below s Q k n (T.setTop (mkF m pc Ls (.long v :: st))) := own_st (fun _ => XS.lstoreN X.here hx rfl (hb hby hd) rfl hl) h
theorem own_lstore (X : Stand p l e R s m args below meth c T locs cells slots) (hx : p.tables.exec = Jvm.exec) (hby : c.code = code) {kk : Nat} {v : Int64} {l' : Array Slot} (hd : decode code pc = .ok (.lstore kk, 2)) (hl : storeLocals Ls kk (.long v) = some l') (h : own_G p e below s Q k n (T.setTop (mkF m (pc + 2) l' st))) : own_G p e below s Q k n (T.setTop (mkF m pc Ls (.long v :: st))) := own_st (fun _ => XS.lstore X.here hx rfl (hb hby hd) rfl hl) h
theorem own_dstoreN (X : Stand p l e R s m args below meth c T locs cells slots) (hx : p.tables.exec = Jvm.exec) (hby : c.code = code) {kk : Fin 4} {v : UInt64} {l' : Array Slot} (hd : decode code pc = .ok (.dstore_n kk, 1)) (hl : storeLocals Ls kk.val (.double v) = some l') (h : own_G p e below s Q k n (T.setTop (mkF m (pc + 1) l' st))) : own_G p e below s Q k n (T.setTop (mkF m pc Ls (.double v :: st))) := own_st (fun _ => XS.dstoreN X.here hx rfl (hb hby hd) rfl hl) h
theorem own_dstore (X : Stand p l e R s m args below meth c T locs cells slots) (hx : p.tables.exec = Jvm.exec) (hby : c.code = code) {kk : Nat} {v : UInt64} {l' : Array Slot} (hd : decode code pc = .ok (.dstore kk, 2)) (hl : storeLocals Ls kk (.double v) = some l') (h : own_G p e below s Q k n (T.setTop (mkF m (pc + 2) l' st))) : own_G p e below s Q k n (T.setTop (mkF m pc Ls (.double v :: st))) := own_st (fun _ => XS.dstore X.here hx rfl (hb hby hd) rfl hl) h
theorem own_astoreN (X : Stand p l e R s m args below meth c T locs cells slots) (hx : p.tables.exec = Jvm.exec) (hby : c.code = code) {kk : Fin 4} {v : Value} {l' : Array Slot} (hd : decode code pc = .ok (.astore_n kk, 1)) (hv : v.isRef = true) (hl : storeLocals Ls kk.val v = some l') (h : own_G p e below s Q k n (T.setTop (mkF m (pc + 1) l' st))) : own_G p e below s Q k n (T.setTop (mkF m pc Ls (v :: st))) := own_st (fun _ => XS.astoreN X.here hx rfl (hb hby hd) rfl hv hl) h
theorem own_astore (X : Stand p l e R s m args below meth c T locs cells slots) (hx : p.tables.exec = Jvm.exec) (hby : c.code = code) {kk : Nat} {v : Value} {l' : Array Slot} (hd : decode code pc = .ok (.astore kk, 2)) (hv : v.isRef = true) (hl : storeLocals Ls kk v = some l') (h : own_G p e below s Q k n (T.setTop (mkF m (pc + 2) l' st))) : own_G p e below s Q k n (T.setTop (mkF m pc Ls (v :: st))) := own_st (fun _ => XS.astore X.here hx rfl (hb hby hd) rfl hv hl) h
theorem own_iconst (X : Stand p l e R s m args below meth c T locs cells slots) (hx : p.tables.exec = Jvm.exec) (hby : c.code = code) {i : Int} (hd : decode code pc = .ok (.iconst i, 1))  (h : own_G p e below s Q k n (T.setTop (mkF m (pc + 1) Ls (.int (Int32.ofInt i) :: st)))) : own_G p e below s Q k n (T.setTop (mkF m pc Ls st)) := own_st (fun _ => XS.iconst X.here hx rfl (hb hby hd)) h
theorem own_bipush (X : Stand p l e R s m args below meth c T locs cells slots) (hx : p.tables.exec = Jvm.exec) (hby : c.code = code) {i : Int} (hd : decode code pc = .ok (.bipush i, 2))  (h : own_G p e below s Q k n (T.setTop (mkF m (pc + 2) Ls (.int (Int8.ofInt i).toInt32 :: st)))) : own_G p e below s Q k n (T.setTop (mkF m pc Ls st)) := own_st (fun _ => XS.bipush X.here hx rfl (hb hby hd)) h
theorem own_sipush (X : Stand p l e R s m args below meth c T locs cells slots) (hx : p.tables.exec = Jvm.exec) (hby : c.code = code) {i : Int} (hd : decode code pc = .ok (.sipush i, 3))  (h : own_G p e below s Q k n (T.setTop (mkF m (pc + 3) Ls (.int (Int16.ofInt i).toInt32 :: st)))) : own_G p e below s Q k n (T.setTop (mkF m pc Ls st)) := own_st (fun _ => XS.sipush X.here hx rfl (hb hby hd)) h
theorem own_lconst (X : Stand p l e R s m args below meth c T locs cells slots) (hx : p.tables.exec = Jvm.exec) (hby : c.code = code) {i : Fin 2} (hd : decode code pc = .ok (.lconst i, 1))  (h : own_G p e below s Q k n (T.setTop (mkF m (pc + 1) Ls (.long (Int64.ofNat i) :: st)))) : own_G p e below s Q k n (T.setTop (mkF m pc Ls st)) := own_st (fun _ => XS.lconst X.here hx rfl (hb hby hd)) h
theorem own_aconst_null (X : Stand p l e R s m args below meth c T locs cells slots) (hx : p.tables.exec = Jvm.exec) (hby : c.code = code)  (hd : decode code pc = .ok (.aconst_null, 1))  (h : own_G p e below s Q k n (T.setTop (mkF m (pc + 1) Ls (.null :: st)))) : own_G p e below s Q k n (T.setTop (mkF m pc Ls st)) := own_st (fun _ => XS.aconstNull X.here hx rfl (hb hby hd)) h
theorem own_iadd (X : Stand p l e R s m args below meth c T locs cells slots) (hx : p.tables.exec = Jvm.exec) (hby : c.code = code) {x y : Int32} (hd : decode code pc = .ok (.iadd, 1))  (h : own_G p e below s Q k n (T.setTop (mkF m (pc + 1) Ls (.int (x + y) :: st)))) : own_G p e below s Q k n (T.setTop (mkF m pc Ls (.int y :: .int x :: st))) := own_st (fun _ => XS.iadd X.here hx rfl (hb hby hd) rfl) h
theorem own_isub (X : Stand p l e R s m args below meth c T locs cells slots) (hx : p.tables.exec = Jvm.exec) (hby : c.code = code) {x y : Int32} (hd : decode code pc = .ok (.isub, 1))  (h : own_G p e below s Q k n (T.setTop (mkF m (pc + 1) Ls (.int (x - y) :: st)))) : own_G p e below s Q k n (T.setTop (mkF m pc Ls (.int y :: .int x :: st))) := own_st (fun _ => XS.isub X.here hx rfl (hb hby hd) rfl) h
theorem own_imul (X : Stand p l e R s m args below meth c T locs cells slots) (hx : p.tables.exec = Jvm.exec) (hby : c.code = code) {x y : Int32} (hd : decode code pc = .ok (.imul, 1))  (h : own_G p e below s Q k n (T.setTop (mkF m (pc + 1) Ls (.int (x * y) :: st)))) : own_G p e below s Q k n (T.setTop (mkF m pc Ls (.int y :: .int x :: st))) := own_st (fun _ => XS.imul X.here hx rfl (hb hby hd) rfl) h
theorem own_iand (X : Stand p l e R s m args below meth c T locs cells slots) (hx : p.tables.exec = Jvm.exec) (hby : c.code = code) {x y : Int32} (hd : decode code pc = .ok (.iand, 1))  (h : own_G p e below s Q k n (T.setTop (mkF m (pc + 1) Ls (.int (x &&& y) :: st)))) : own_G p e below s Q k n (T.setTop (mkF m pc Ls (.int y :: .int x :: st))) := own_st (fun _ => XS.iand X.here hx rfl (hb hby hd) rfl) h
theorem own_ior (X : Stand p l e R s m args below meth c T locs cells slots) (hx : p.tables.exec = Jvm.exec) (hby : c.code = code) {x y : Int32} (hd : decode code pc = .ok (.ior, 1))  (h : own_G p e below s Q k n (T.setTop (mkF m (pc + 1) Ls (.int (x ||| y) :: st)))) : own_G p e below s Q k n (T.setTop (mkF m pc Ls (.int y :: .int x :: st))) := own_st (fun _ => XS.ior X.here hx rfl (hb hby hd) rfl) h
theorem own_ixor (X : Stand p l e R s m args below meth c T locs cells slots) (hx : p.tables.exec = Jvm.exec) (hby : c.code = code) {x y : Int32} (hd : decode code pc = .ok (.ixor, 1))  (h : own_G p e below s Q k n (T.setTop (mkF m (pc + 1) Ls (.int (x ^^^ y) :: st)))) : own_G p e below s Q k n (T.setTop (mkF m pc Ls (.int y :: .int x :: st))) := own_st (fun _ => XS.ixor X.here hx rfl (hb hby hd) rfl) h
theorem own_ishl (X : Stand p l e R s m args below meth c T locs cells slots) (hx : p.tables.exec = Jvm.exec) (hby : c.code = code) {x y : Int32} (hd : decode code pc = .ok (.ishl, 1))  (h : own_G p e below s Q k n (T.setTop (mkF m (pc + 1) Ls (.int (x <<< (y &&& 31)) :: st)))) : own_G p e below s Q k n (T.setTop (mkF m pc Ls (.int y :: .int x :: st))) := own_st (fun _ => XS.ishl X.here hx rfl (hb hby hd) rfl) h
theorem own_ishr (X : Stand p l e R s m args below meth c T locs cells slots) (hx : p.tables.exec = Jvm.exec) (hby : c.code = code) {x y : Int32} (hd : decode code pc = .ok (.ishr, 1))  (h : own_G p e below s Q k n (T.setTop (mkF m (pc + 1) Ls (.int (x >>> (y &&& 31)) :: st)))) : own_G p e below s Q k n (T.setTop (mkF m pc Ls (.int y :: .int x :: st))) := own_st (fun _ => XS.ishr X.here hx rfl (hb hby hd) rfl) h
theorem own_iushr (X : Stand p l e R s m args below meth c T locs cells slots) (hx : p.tables.exec = Jvm.exec) (hby : c.code = code) {x y : Int32} (hd : decode code pc = .ok (.iushr, 1))  (h : own_G p e below s Q k n (T.setTop (mkF m (pc + 1) Ls (.int ((x.toUInt32 >>> (y &&& 31).toUInt32).toInt32) :: st)))) : own_G p e below s Q k n (T.setTop (mkF m pc Ls (.int y :: .int x :: st))) := own_st (fun _ => XS.iushr X.here hx rfl (hb hby hd) rfl) h
theorem own_ladd (X : Stand p l e R s m args below meth c T locs cells slots) (hx : p.tables.exec = Jvm.exec) (hby : c.code = code) {x y : Int64} (hd : decode code pc = .ok (.ladd, 1))  (h : own_G p e below s Q k n (T.setTop (mkF m (pc + 1) Ls (.long (x + y) :: st)))) : own_G p e below s Q k n (T.setTop (mkF m pc Ls (.long y :: .long x :: st))) := own_st (fun _ => XS.ladd X.here hx rfl (hb hby hd) rfl) h
theorem own_lsub (X : Stand p l e R s m args below meth c T locs cells slots) (hx : p.tables.exec = Jvm.exec) (hby : c.code = code) {x y : Int64} (hd : decode code pc = .ok (.lsub, 1))  (h : own_G p e below s Q k n (T.setTop (mkF m (pc + 1) Ls (.long (x - y) :: st)))) : own_G p e below s Q k n (T.setTop (mkF m pc Ls (.long y :: .long x :: st))) := own_st (fun _ => XS.lsub X.here hx rfl (hb hby hd) rfl) h
theorem own_lmul (X : Stand p l e R s m args below meth c T locs cells slots) (hx : p.tables.exec = Jvm.exec) (hby : c.code = code) {x y : Int64} (hd : decode code pc = .ok (.lmul, 1))  (h : own_G p e below s Q k n (T.setTop (mkF m (pc + 1) Ls (.long (x * y) :: st)))) : own_G p e below s Q k n (T.setTop (mkF m pc Ls (.long y :: .long x :: st))) := own_st (fun _ => XS.lmul X.here hx rfl (hb hby hd) rfl) h
theorem own_land (X : Stand p l e R s m args below meth c T locs cells slots) (hx : p.tables.exec = Jvm.exec) (hby : c.code = code) {x y : Int64} (hd : decode code pc = .ok (.land, 1))  (h : own_G p e below s Q k n (T.setTop (mkF m (pc + 1) Ls (.long (x &&& y) :: st)))) : own_G p e below s Q k n (T.setTop (mkF m pc Ls (.long y :: .long x :: st))) := own_st (fun _ => XS.land X.here hx rfl (hb hby hd) rfl) h
theorem own_lor (X : Stand p l e R s m args below meth c T locs cells slots) (hx : p.tables.exec = Jvm.exec) (hby : c.code = code) {x y : Int64} (hd : decode code pc = .ok (.lor, 1))  (h : own_G p e below s Q k n (T.setTop (mkF m (pc + 1) Ls (.long (x ||| y) :: st)))) : own_G p e below s Q k n (T.setTop (mkF m pc Ls (.long y :: .long x :: st))) := own_st (fun _ => XS.lor X.here hx rfl (hb hby hd) rfl) h
theorem own_lxor (X : Stand p l e R s m args below meth c T locs cells slots) (hx : p.tables.exec = Jvm.exec) (hby : c.code = code) {x y : Int64} (hd : decode code pc = .ok (.lxor, 1))  (h : own_G p e below s Q k n (T.setTop (mkF m (pc + 1) Ls (.long (x ^^^ y) :: st)))) : own_G p e below s Q k n (T.setTop (mkF m pc Ls (.long y :: .long x :: st))) := own_st (fun _ => XS.lxor X.here hx rfl (hb hby hd) rfl) h
theorem own_lshl (X : Stand p l e R s m args below meth c T locs cells slots) (hx : p.tables.exec = Jvm.exec) (hby : c.code = code) {x : Int64} {y : Int32} (hd : decode code pc = .ok (.lshl, 1))  (h : own_G p e below s Q k n (T.setTop (mkF m (pc + 1) Ls (.long (x <<< (y &&& 0x3f).toInt64) :: st)))) : own_G p e below s Q k n (T.setTop (mkF m pc Ls (.int y :: .long x :: st))) := own_st (fun _ => XS.lshl X.here hx rfl (hb hby hd) rfl) h
theorem own_lshr (X : Stand p l e R s m args below meth c T locs cells slots) (hx : p.tables.exec = Jvm.exec) (hby : c.code = code) {x : Int64} {y : Int32} (hd : decode code pc = .ok (.lshr, 1))  (h : own_G p e below s Q k n (T.setTop (mkF m (pc + 1) Ls (.long (x >>> (y &&& 0x3f).toInt64) :: st)))) : own_G p e below s Q k n (T.setTop (mkF m pc Ls (.int y :: .long x :: st))) := own_st (fun _ => XS.lshr X.here hx rfl (hb hby hd) rfl) h
theorem own_lushr (X : Stand p l e R s m args below meth c T locs cells slots) (hx : p.tables.exec = Jvm.exec) (hby : c.code = code) {x : Int64} {y : Int32} (hd : decode code pc = .ok (.lushr, 1))  (h : own_G p e below s Q k n (T.setTop (mkF m (pc + 1) Ls (.long ((x.toUInt64 >>> (y &&& 0x3f).toInt64.toUInt64).toInt64) :: st)))) : own_G p e below s Q k n (T.setTop (mkF m pc Ls (.int y :: .long x :: st))) := own_st (fun _ => XS.lushr X.here hx rfl (hb hby hd) rfl) h
theorem own_idiv (X : Stand p l e R s m args below meth c T locs cells slots) (hx : p.tables.exec = Jvm.exec) (hby : c.code = code) {x y : Int32} (hd : decode code pc = .ok (.idiv, 1)) (hy : y ≠ 0) (h : own_G p e below s Q k n (T.setTop (mkF m (pc + 1) Ls (.int (x / y) :: st)))) : own_G p e below s Q k n (T.setTop (mkF m pc Ls (.int y :: .int x :: st))) := own_st (fun _ => XS.idiv X.here hx rfl (hb hby hd) rfl hy) h
theorem own_irem (X : Stand p l e R s m args below meth c T locs cells slots) (hx : p.tables.exec = Jvm.exec) (hby : c.code = code) {x y : Int32} (hd : decode code pc = .ok (.irem, 1)) (hy : y ≠ 0) (h : own_G p e below s Q k n (T.setTop (mkF m (pc + 1) Ls (.int (x % y) :: st)))) : own_G p e below s Q k n (T.setTop (mkF m pc Ls (.int y :: .int x :: st))) := own_st (fun _ => iremM X hx rfl (hb hby hd) rfl hy) h
theorem own_ldiv (X : Stand p l e R s m args below meth c T locs cells slots) (hx : p.tables.exec = Jvm.exec) (hby : c.code = code) {x y : Int64} (hd : decode code pc = .ok (.ldiv, 1)) (hy : y ≠ 0) (h : own_G p e below s Q k n (T.setTop (mkF m (pc + 1) Ls (.long (x / y) :: st)))) : own_G p e below s Q k n (T.setTop (mkF m pc Ls (.long y :: .long x :: st))) := own_st (fun _ => XS.ldiv X.here hx rfl (hb hby hd) rfl hy) h
theorem own_lrem (X : Stand p l e R s m args below meth c T locs cells slots) (hx : p.tables.exec = Jvm.exec) (hby : c.code = code) {x y : Int64} (hd : decode code pc = .ok (.lrem, 1)) (hy : y ≠ 0) (h : own_G p e below s Q k n (T.setTop (mkF m (pc + 1) Ls (.long (x % y) :: st)))) : own_G p e below s Q k n (T.setTop (mkF m pc Ls (.long y :: .long x :: st))) := own_st (fun _ hr => XS.lrem X.here hx rfl (hb hby hd) rfl hy (by rw [lrem_mod]; exact hr)) h
theorem own_ineg (X : Stand p l e R s m args below meth c T locs cells slots) (hx : p.tables.exec = Jvm.exec) (hby : c.code = code) {x : Int32} (hd : decode code pc = .ok (.ineg, 1))  (h : own_G p e below s Q k n (T.setTop (mkF m (pc + 1) Ls (.int (-x) :: st)))) : own_G p e below s Q k n (T.setTop (mkF m pc Ls (.int x :: st))) := own_st (fun _ => XS.ineg X.here hx rfl (hb hby hd) rfl) h
theorem own_lneg (X : Stand p l e R s m args below meth c T locs cells slots) (hx : p.tables.exec = Jvm.exec) (hby : c.code = code) {x : Int64} (hd : decode code pc = .ok (.lneg, 1))  (h : own_G p e below s Q k n (T.setTop (mkF m (pc + 1) Ls (.long (-x) :: st)))) : own_G p e below s Q k n (T.setTop (mkF m pc Ls (.long x :: st))) := own_st (fun _ => XS.lneg X.here hx rfl (hb hby hd) rfl) h
theorem own_i2l (X : Stand p l e R s m args below meth c T locs cells slots) (hx : p.tables.exec = Jvm.exec) (hby : c.code = code) {x : Int32} (hd : decode code pc = .ok (.i2l, 1))  (h : own_G p e below s Q k n (T.setTop (mkF m (pc + 1) Ls (.long (x.toInt64) :: st)))) : own_G p e below s Q k n (T.setTop (mkF m pc Ls (.int x :: st))) := own_st (fun _ => XS.i2l X.here hx rfl (hb hby hd) rfl) h
theorem own_l2i (X : Stand p l e R s m args below meth c T locs cells slots) (hx : p.tables.exec = Jvm.exec) (hby : c.code = code) {x : Int64} (hd : decode code pc = .ok (.l2i, 1))  (h : own_G p e below s Q k n (T.setTop (mkF m (pc + 1) Ls (.int (x.toInt32) :: st)))) : own_G p e below s Q k n (T.setTop (mkF m pc Ls (.long x :: st))) := own_st (fun _ => XS.l2i X.here hx rfl (hb hby hd) rfl) h
theorem own_i2b (X : Stand p l e R s m args below meth c T locs cells slots) (hx : p.tables.exec = Jvm.exec) (hby : c.code = code) {x : Int32} (hd : decode code pc = .ok (.i2b, 1))  (h : own_G p e below s Q k n (T.setTop (mkF m (pc + 1) Ls (.int (x.toInt8.toInt32) :: st)))) : own_G p e below s Q k n (T.setTop (mkF m pc Ls (.int x :: st))) := own_st (fun _ => XS.i2b X.here hx rfl (hb hby hd) rfl) h
theorem own_i2s (X : Stand p l e R s m args below meth c T locs cells slots) (hx : p.tables.exec = Jvm.exec) (hby : c.code = code) {x : Int32} (hd : decode code pc = .ok (.i2s, 1))  (h : own_G p e below s Q k n (T.setTop (mkF m (pc + 1) Ls (.int (x.toInt16.toInt32) :: st)))) : own_G p e below s Q k n (T.setTop (mkF m pc Ls (.int x :: st))) := own_st (fun _ => XS.i2s X.here hx rfl (hb hby hd) rfl) h
theorem own_i2c (X : Stand p l e R s m args below meth c T locs cells slots) (hx : p.tables.exec = Jvm.exec) (hby : c.code = code) {x : Int32} (hd : decode code pc = .ok (.i2c, 1))  (h : own_G p e below s Q k n (T.setTop (mkF m (pc + 1) Ls (.int (x.toUInt32.toUInt16.toUInt32.toInt32) :: st)))) : own_G p e below s Q k n (T.setTop (mkF m pc Ls (.int x :: st))) := own_st (fun _ => XS.i2c X.here hx rfl (hb hby hd) rfl) h
theorem own_dup (X : Stand p l e R s m args below meth c T locs cells slots) (hx : p.tables.exec = Jvm.exec) (hby : c.code = code) {v : Value} (hd : decode code pc = .ok (.dup, 1)) (hc : v.category = 1) (h : own_G p e below s Q k n (T.setTop (mkF m (pc + 1) Ls (v :: v :: st)))) : own_G p e below s Q k n (T.setTop (mkF m pc Ls (v :: st))) := own_st (fun _ => XS.dup X.here hx rfl (hb hby hd) rfl hc) h
theorem own_dup_x1 (X : Stand p l e R s m args below meth c T locs cells slots) (hx : p.tables.exec = Jvm.exec) (hby : c.code = code) {v w : Value} (hd : decode code pc = .ok (.dup_x1, 1)) (hc : v.category = 1) (hc' : w.category = 1) (h : own_G p e below s Q k n (T.setTop (mkF m (pc + 1) Ls (v :: w :: v :: st)))) : own_G p e below s Q k n (T.setTop (mkF m pc Ls (v :: w :: st))) := own_st (fun _ => XS.dupX1 X.here hx rfl (hb hby hd) rfl hc hc') h
theorem own_dup2 (X : Stand p l e R s m args below meth c T locs cells slots) (hx : p.tables.exec = Jvm.exec) (hby : c.code = code) {v w : Value} (hd : decode code pc = .ok (.dup2, 1)) (hc : v.category = 1) (hc' : w.category = 1) (h : own_G p e below s Q k n (T.setTop (mkF m (pc + 1) Ls (v :: w :: v :: w :: st)))) : own_G p e below s Q k n (T.setTop (mkF m pc Ls (v :: w :: st))) := own_st (fun _ => Jvm.Free.XT.dup2 X.here hx rfl (hb hby hd) rfl hc hc') h
theorem own_dup2L (X : Stand p l e R s m args below meth c T locs cells slots) (hx : p.tables.exec = Jvm.exec) (hby : c.code = code) {v : Int64} (hd : decode code pc = .ok (.dup2, 1))  (h : own_G p e below s Q k n (T.setTop (mkF m (pc + 1) Ls (.long v :: .long v :: st)))) : own_G p e below s Q k n (T.setTop (mkF m pc Ls (.long v :: st))) := own_st (fun _ => Jvm.Free.XT.dup2L X.here hx rfl (hb hby hd) rfl) h
theorem own_pop (X : Stand p l e R s m args below meth c T locs cells slots) (hx : p.tables.exec = Jvm.exec) (hby : c.code = code) {v : Value} (hd : decode code pc = .ok (.pop, 1)) (hc : v.category = 1) (h : own_G p e below s Q k n (T.setTop (mkF m (pc + 1) Ls st))) : own_G p e below s Q k n (T.setTop (mkF m pc Ls (v :: st))) := own_st (fun _ => XS.pop X.here hx rfl (hb hby hd) rfl hc) h
theorem own_iinc (X : Stand p l e R s m args below meth c T locs cells slots) (hx : p.tables.exec = Jvm.exec) (hby : c.code = code) {kk : Nat} {cst : Int} {x : Int32} {l' : Array Slot} (hd : decode code pc = .ok (.iinc kk cst, 3)) (hl : Ls[kk]? = some (.val (.int x))) (hl' : storeLocals Ls kk (.int (x + Int32.ofInt cst)) = some l') (h : own_G p e below s Q k n (T.setTop (mkF m (pc + 3) l' st))) : own_G p e below s Q k n (T.setTop (mkF m pc Ls st)) := own_st (fun _ => XS.iinc X.here hx rfl (hb hby hd) hl hl') h
theorem own_goto (X : Stand p l e R s m args below meth c T locs cells slots) (hx : p.tables.exec = Jvm.exec) (hby : c.code = code) {o : Int} {pc' : Nat} (hd : decode code pc = .ok (.goto o, 3)) (ho : 0 ≤ (pc : Int) + o) (hp : ((pc : Int) + o).toNat = pc') (h : own_G p e below s Q k n (T.setTop (mkF m pc' Ls st))) : own_G p e below s Q k n (T.setTop (mkF m pc Ls st)) := own_st (fun _ => XS.goto X.here hx rfl rfl (hb hby hd) ho hp) h
theorem own_icmp_eq (X : Stand p l e R s m args below meth c T locs cells slots) (hx : p.tables.exec = Jvm.exec) (hby : c.code = code) {x y : Int32} {o : Int} {pc' : Nat} (hd : decode code pc = .ok (.if_icmp .eq o, 3)) (ho : 0 ≤ (pc : Int) + o) (hp : ((pc : Int) + o).toNat = pc') (hY : x = y → own_G p e below s Q k n (T.setTop (mkF m pc' Ls st))) (hN : ¬ x = y → own_G p e below s Q k n (T.setTop (mkF m (pc + 3) Ls st))) : own_G p e below s Q k n (T.setTop (mkF m pc Ls (.int y :: .int x :: st))) := by
  by_cases q : x = y
  · exact own_st (fun _ => XS.icmpYes X.here hx rfl rfl (hb hby hd) rfl (teq q).1 ho hp) (hY q)
  · exact own_st (fun _ => XS.icmpNo X.here hx rfl (hb hby hd) rfl (feq q).1) (hN q)
theorem own_if_eq (X : Stand p l e R s m args below meth c T locs cells slots) (hx : p.tables.exec = Jvm.exec) (hby : c.code = code) {x : Int32} {o : Int} {pc' : Nat} (hd : decode code pc = .ok (.ifCond .eq o, 3)) (ho : 0 ≤ (pc : Int) + o) (hp : ((pc : Int) + o).toNat = pc') (hY : x = 0 → own_G p e below s Q k n (T.setTop (mkF m pc' Ls st))) (hN : ¬ x = 0 → own_G p e below s Q k n (T.setTop (mkF m (pc + 3) Ls st))) : own_G p e below s Q k n (T.setTop (mkF m pc Ls (.int x :: st))) := by
  by_cases q : x = 0
  · exact own_st (fun _ => XS.ifYes X.here hx rfl rfl (hb hby hd) rfl ((if0 _ _).trans (teq q).1) ho hp) (hY q)
  · exact own_st (fun _ => XS.ifNo X.here hx rfl (hb hby hd) rfl ((if0 _ _).trans (feq q).1)) (hN q)
theorem own_lcmp_eq (X : Stand p l e R s m args below meth c T locs cells slots) (hx : p.tables.exec = Jvm.exec) (hby : c.code = code) {x y : Int64} {o : Int} {pc' : Nat} (hd : decode code pc = .ok (.lcmp, 1)) (hd2 : decode code (pc + 1) = .ok (.ifCond .eq o, 3)) (ho : 0 ≤ ((pc + 1 : Nat) : Int) + o) (hp : (((pc + 1 : Nat) : Int) + o).toNat = pc') (hY : x = y → own_G p e below s Q k n (T.setTop (mkF m pc' Ls st))) (hN : ¬ x = y → own_G p e below s Q k n (T.setTop (mkF m (pc + 4) Ls st))) : own_G p e below s Q k n (T.setTop (mkF m pc Ls (.long y :: .long x :: st))) := by
  refine own_st (fun _ => XS.lcmp X.here hx rfl (hb hby hd) rfl) ?_
  exact own_if_eq (x := lcmpW x y) X hx hby hd2 ho hp (fun q => hY ((lw_eq x y).mp q)) (fun q => hN (fun z => q ((lw_eq x y).mpr z)))
theorem own_icmp_ne (X : Stand p l e R s m args below meth c T locs cells slots) (hx : p.tables.exec = Jvm.exec) (hby : c.code = code) {x y : Int32} {o : Int} {pc' : Nat} (hd : decode code pc = .ok (.if_icmp .ne o, 3)) (ho : 0 ≤ (pc : Int) + o) (hp : ((pc : Int) + o).toNat = pc') (hY : ¬ x = y → own_G p e below s Q k n (T.setTop (mkF m pc' Ls st))) (hN : x = y → own_G p e below s Q k n (T.setTop (mkF m (pc + 3) Ls st))) : own_G p e below s Q k n (T.setTop (mkF m pc Ls (.int y :: .int x :: st))) := by
  by_cases q : x = y
  · exact own_st (fun _ => XS.icmpNo X.here hx rfl (hb hby hd) rfl (teq q).2) (hN q)
  · exact own_st (fun _ => XS.icmpYes X.here hx rfl rfl (hb hby hd) rfl (feq q).2 ho hp) (hY q)
theorem own_if_ne (X : Stand p l e R s m args below meth c T locs cells slots) (hx : p.tables.exec = Jvm.exec) (hby : c.code = code) {x : Int32} {o : Int} {pc' : Nat} (hd : decode code pc = .ok (.ifCond .ne o, 3)) (ho : 0 ≤ (pc : Int) + o) (hp : ((pc : Int) + o).toNat = pc') (hY : ¬ x = 0 → own_G p e below s Q k n (T.setTop (mkF m pc' Ls st))) (hN : x = 0 → own_G p e below s Q k n (T.setTop (mkF m (pc + 3) Ls st))) : own_G p e below s Q k n (T.setTop (mkF m pc Ls (.int x :: st))) := by
  by_cases q : x = 0
  · exact own_st (fun _ => XS.ifNo X.here hx rfl (hb hby hd) rfl ((if0 _ _).trans (teq q).2)) (hN q)
  · exact own_st (fun _ => XS.ifYes X.here hx rfl rfl (hb hby hd) rfl ((if0 _ _).trans (feq q).2) ho hp) (hY q)
theorem own_lcmp_ne (X : Stand p l e R s m args below meth c T locs cells slots) (hx : p.tables.exec = Jvm.exec) (hby : c.code = code) {x y : Int64} {o : Int} {pc' : Nat} (hd : decode code pc = .ok (.lcmp, 1)) (hd2 : decode code (pc + 1) = .ok (.ifCond .ne o, 3)) (ho : 0 ≤ ((pc + 1 : Nat) : Int) + o) (hp : (((pc + 1 : Nat) : Int) + o).toNat = pc') (hY : ¬ x = y → own_G p e below s Q k n (T.setTop (mkF m pc' Ls st))) (hN : x = y → own_G p e below s Q k n (T.setTop (mkF m (pc + 4) Ls st))) : own_G p e below s Q k n (T.setTop (mkF m pc Ls (.long y :: .long x :: st))) := by
  refine own_st (fun _ => XS.lcmp X.here hx rfl (hb hby hd) rfl) ?_
  exact own_if_ne (x := lcmpW x y) X hx hby hd2 ho hp (fun q => hY (fun z => q ((lw_eq x y).mpr z))) (fun q => hN ((lw_eq x y).mp q))
theorem own_icmp_lt (X : Stand p l e R s m args below meth c T locs cells slots) (hx : p.tables.exec = Jvm.exec) (hby : c.code = code) {x y : Int32} {o : Int} {pc' : Nat} (hd : decode code pc = .ok (.if_icmp .lt o, 3)) (ho : 0 ≤ (pc : Int) + o) (hp : ((pc : Int) + o).toNat = pc') (hY : x < y → own_G p e below s Q k n (T.setTop (mkF m pc' Ls st))) (hN : ¬ x < y → own_G p e below s Q k n (T.setTop (mkF m (pc + 3) Ls st))) : own_G p e below s Q k n (T.setTop (mkF m pc Ls (.int y :: .int x :: st))) := by
  by_cases q : x < y
  · exact own_st (fun _ => XS.icmpYes X.here hx rfl rfl (hb hby hd) rfl (tlt q).1 ho hp) (hY q)
  · exact own_st (fun _ => XS.icmpNo X.here hx rfl (hb hby hd) rfl (flt q).1) (hN q)
theorem own_if_lt (X : Stand p l e R s m args below meth c T locs cells slots) (hx : p.tables.exec = Jvm.exec) (hby : c.code = code) {x : Int32} {o : Int} {pc' : Nat} (hd : decode code pc = .ok (.ifCond .lt o, 3)) (ho : 0 ≤ (pc : Int) + o) (hp : ((pc : Int) + o).toNat = pc') (hY : x < 0 → own_G p e below s Q k n (T.setTop (mkF m pc' Ls st))) (hN : ¬ x < 0 → own_G p e below s Q k n (T.setTop (mkF m (pc + 3) Ls st))) : own_G p e below s Q k n (T.setTop (mkF m pc Ls (.int x :: st))) := by
  by_cases q : x < 0
  · exact own_st (fun _ => XS.ifYes X.here hx rfl rfl (hb hby hd) rfl ((if0 _ _).trans (tlt q).1) ho hp) (hY q)
  · exact own_st (fun _ => XS.ifNo X.here hx rfl (hb hby hd) rfl ((if0 _ _).trans (flt q).1)) (hN q)
theorem own_lcmp_lt (X : Stand p l e R s m args below meth c T locs cells slots) (hx : p.tables.exec = Jvm.exec) (hby : c.code = code) {x y : Int64} {o : Int} {pc' : Nat} (hd : decode code pc = .ok (.lcmp, 1)) (hd2 : decode code (pc + 1) = .ok (.ifCond .lt o, 3)) (ho : 0 ≤ ((pc + 1 : Nat) : Int) + o) (hp : (((pc + 1 : Nat) : Int) + o).toNat = pc') (hY : x < y → own_G p e below s Q k n (T.setTop (mkF m pc' Ls st))) (hN : ¬ x < y → own_G p e below s Q k n (T.setTop (mkF m (pc + 4) Ls st))) : own_G p e below s Q k n (T.setTop (mkF m pc Ls (.long y :: .long x :: st))) := by
  refine own_st (fun _ => XS.lcmp X.here hx rfl (hb hby hd) rfl) ?_
  exact own_if_lt (x := lcmpW x y) X hx hby hd2 ho hp (fun q => hY ((lw_lt x y).mp q)) (fun q => hN (fun z => q ((lw_lt x y).mpr z)))
theorem own_icmp_ge (X : Stand p l e R s m args below meth c T locs cells slots) (hx : p.tables.exec = Jvm.exec) (hby : c.code = code) {x y : Int32} {o : Int} {pc' : Nat} (hd : decode code pc = .ok (.if_icmp .ge o, 3)) (ho : 0 ≤ (pc : Int) + o) (hp : ((pc : Int) + o).toNat = pc') (hY : ¬ x < y → own_G p e below s Q k n (T.setTop (mkF m pc' Ls st))) (hN : x < y → own_G p e below s Q k n (T.setTop (mkF m (pc + 3) Ls st))) : own_G p e below s Q k n (T.setTop (mkF m pc Ls (.int y :: .int x :: st))) := by
  by_cases q : x < y
  · exact own_st (fun _ => XS.icmpNo X.here hx rfl (hb hby hd) rfl (tlt q).2.1) (hN q)
  · exact own_st (fun _ => XS.icmpYes X.here hx rfl rfl (hb hby hd) rfl (flt q).2.1 ho hp) (hY q)
theorem own_if_ge (X : Stand p l e R s m args below meth c T locs cells slots) (hx : p.tables.exec = Jvm.exec) (hby : c.code = code) {x : Int32} {o : Int} {pc' : Nat} (hd : decode code pc = .ok (.ifCond .ge o, 3)) (ho : 0 ≤ (pc : Int) + o) (hp : ((pc : Int) + o).toNat = pc') (hY : ¬ x < 0 → own_G p e below s Q k n (T.setTop (mkF m pc' Ls st))) (hN : x < 0 → own_G p e below s Q k n (T.setTop (mkF m (pc + 3) Ls st))) : own_G p e below s Q k n (T.setTop (mkF m pc Ls (.int x :: st))) := by
  by_cases q : x < 0
  · exact own_st (fun _ => XS.ifNo X.here hx rfl (hb hby hd) rfl ((if0 _ _).trans (tlt q).2.1)) (hN q)
  · exact own_st (fun _ => XS.ifYes X.here hx rfl rfl (hb hby hd) rfl ((if0 _ _).trans (flt q).2.1) ho hp) (hY q)
theorem own_lcmp_ge (X : Stand p l e R s m args below meth c T locs cells slots) (hx : p.tables.exec = Jvm.exec) (hby : c.code = code) {x y : Int64} {o : Int} {pc' : Nat} (hd : decode code pc = .ok (.lcmp, 1)) (hd2 : decode code (pc + 1) = .ok (.ifCond .ge o, 3)) (ho : 0 ≤ ((pc + 1 : Nat) : Int) + o) (hp : (((pc + 1 : Nat) : Int) + o).toNat = pc') (hY : ¬ x < y → own_G p e below s Q k n (T.setTop (mkF m pc' Ls st))) (hN : x < y → own_G p e below s Q k n (T.setTop (mkF m (pc + 4) Ls st))) : own_G p e below s Q k n (T.setTop (mkF m pc Ls (.long y :: .long x :: st))) := by
  refine own_st (fun _ => XS.lcmp X.here hx rfl (hb hby hd) rfl) ?_
  exact own_if_ge (x := lcmpW x y) X hx hby hd2 ho hp (fun q => hY (fun z => q ((lw_lt x y).mpr z))) (fun q => hN ((lw_lt x y).mp q))
theorem own_icmp_gt (X : Stand p l e R s m args below meth c T locs cells slots) (hx : p.tables.exec = Jvm.exec) (hby : c.code = code) {x y : Int32} {o : Int} {pc' : Nat} (hd : decode code pc = .ok (.if_icmp .gt o, 3)) (ho : 0 ≤ (pc : Int) + o) (hp : ((pc : Int) + o).toNat = pc') (hY : y < x → own_G p e below s Q k n (T.setTop (mkF m pc' Ls st))) (hN : ¬ y < x → own_G p e below s Q k n (T.setTop (mkF m (pc + 3) Ls st))) : own_G p e below s Q k n (T.setTop (mkF m pc Ls (.int y :: .int x :: st))) := by
  by_cases q : y < x
  · exact own_st (fun _ => XS.icmpYes X.here hx rfl rfl (hb hby hd) rfl (tlt q).2.2.1 ho hp) (hY q)
  · exact own_st (fun _ => XS.icmpNo X.here hx rfl (hb hby hd) rfl (flt q).2.2.1) (hN q)
theorem own_if_gt (X : Stand p l e R s m args below meth c T locs cells slots) (hx : p.tables.exec = Jvm.exec) (hby : c.code = code) {x : Int32} {o : Int} {pc' : Nat} (hd : decode code pc = .ok (.ifCond .gt o, 3)) (ho : 0 ≤ (pc : Int) + o) (hp : ((pc : Int) + o).toNat = pc') (hY : 0 < x → own_G p e below s Q k n (T.setTop (mkF m pc' Ls st))) (hN : ¬ 0 < x → own_G p e below s Q k n (T.setTop (mkF m (pc + 3) Ls st))) : own_G p e below s Q k n (T.setTop (mkF m pc Ls (.int x :: st))) := by
  by_cases q : 0 < x
  · exact own_st (fun _ => XS.ifYes X.here hx rfl rfl (hb hby hd) rfl ((if0 _ _).trans (tlt q).2.2.1) ho hp) (hY q)
  · exact own_st (fun _ => XS.ifNo X.here hx rfl (hb hby hd) rfl ((if0 _ _).trans (flt q).2.2.1)) (hN q)
theorem own_lcmp_gt (X : Stand p l e R s m args below meth c T locs cells slots) (hx : p.tables.exec = Jvm.exec) (hby : c.code = code) {x y : Int64} {o : Int} {pc' : Nat} (hd : decode code pc = .ok (.lcmp, 1)) (hd2 : decode code (pc + 1) = .ok (.ifCond .gt o, 3)) (ho : 0 ≤ ((pc + 1 : Nat) : Int) + o) (hp : (((pc + 1 : Nat) : Int) + o).toNat = pc') (hY : y < x → own_G p e below s Q k n (T.setTop (mkF m pc' Ls st))) (hN : ¬ y < x → own_G p e below s Q k n (T.setTop (mkF m (pc + 4) Ls st))) : own_G p e below s Q k n (T.setTop (mkF m pc Ls (.long y :: .long x :: st))) := by
  refine own_st (fun _ => XS.lcmp X.here hx rfl (hb hby hd) rfl) ?_
  exact own_if_gt (x := lcmpW x y) X hx hby hd2 ho hp (fun q => hY ((lw_gt x y).mp q)) (fun q => hN (fun z => q ((lw_gt x y).mpr z)))
theorem own_icmp_le (X : Stand p l e R s m args below meth c T locs cells slots) (hx : p.tables.exec = Jvm.exec) (hby : c.code = code) {x y : Int32} {o : Int} {pc' : Nat} (hd : decode code pc = .ok (.if_icmp .le o, 3)) (ho : 0 ≤ (pc : Int) + o) (hp : ((pc : Int) + o).toNat = pc') (hY : ¬ y < x → own_G p e below s Q k n (T.setTop (mkF m pc' Ls st))) (hN : y < x → own_G p e below s Q k n (T.setTop (mkF m (pc + 3) Ls st))) : own_G p e below s Q k n (T.setTop (mkF m pc Ls (.int y :: .int x :: st))) := by
  by_cases q : y < x
  · exact own_st (fun _ => XS.icmpNo X.here hx rfl (hb hby hd) rfl (tlt q).2.2.2) (hN q)
  · exact own_st (fun _ => XS.icmpYes X.here hx rfl rfl (hb hby hd) rfl (flt q).2.2.2 ho hp) (hY q)
theorem own_if_le (X : Stand p l e R s m args below meth c T locs cells slots) (hx : p.tables.exec = Jvm.exec) (hby : c.code = code) {x : Int32} {o : Int} {pc' : Nat} (hd : decode code pc = .ok (.ifCond .le o, 3)) (ho : 0 ≤ (pc : Int) + o) (hp : ((pc : Int) + o).toNat = pc') (hY : ¬ 0 < x → own_G p e below s Q k n (T.setTop (mkF m pc' Ls st))) (hN : 0 < x → own_G p e below s Q k n (T.setTop (mkF m (pc + 3) Ls st))) : own_G p e below s Q k n (T.setTop (mkF m pc Ls (.int x :: st))) := by
  by_cases q : 0 < x
  · exact own_st (fun _ => XS.ifNo X.here hx rfl (hb hby hd) rfl ((if0 _ _).trans (tlt q).2.2.2)) (hN q)
  · exact own_st (fun _ => XS.ifYes X.here hx rfl rfl (hb hby hd) rfl ((if0 _ _).trans (flt q).2.2.2) ho hp) (hY q)
theorem own_lcmp_le (X : Stand p l e R s m args below meth c T locs cells slots) (hx : p.tables.exec = Jvm.exec) (hby : c.code = code) {x y : Int64} {o : Int} {pc' : Nat} (hd : decode code pc = .ok (.lcmp, 1)) (hd2 : decode code (pc + 1) = .ok (.ifCond .le o, 3)) (ho : 0 ≤ ((pc + 1 : Nat) : Int) + o) (hp : (((pc + 1 : Nat) : Int) + o).toNat = pc') (hY : ¬ y < x → own_G p e below s Q k n (T.setTop (mkF m pc' Ls st))) (hN : y < x → own_G p e below s Q k n (T.setTop (mkF m (pc + 4) Ls st))) : own_G p e below s Q k n (T.setTop (mkF m pc Ls (.long y :: .long x :: st))) := by
  refine own_st (fun _ => XS.lcmp X.here hx rfl (hb hby hd) rfl) ?_
  exact own_if_le (x := lcmpW x y) X hx hby hd2 ho hp (fun q => hY (fun z => q ((lw_gt x y).mpr z))) (fun q => hN ((lw_gt x y).mp q))
theorem own_acmp_eq (X : Stand p l e R s m args below meth c T locs cells slots) (hx : p.tables.exec = Jvm.exec) (hby : c.code = code) {x y : Value} {o : Int} {pc' : Nat} (hx1 : x.isRef = true) (hy1 : y.isRef = true) (hd : decode code pc = .ok (.if_acmp .eq o, 3)) (ho : 0 ≤ (pc : Int) + o) (hp : ((pc : Int) + o).toNat = pc') (hY : x = y → own_G p e below s Q k n (T.setTop (mkF m pc' Ls st))) (hN : ¬ x = y → own_G p e below s Q k n (T.setTop (mkF m (pc + 3) Ls st))) : own_G p e below s Q k n (T.setTop (mkF m pc Ls (y :: x :: st))) := by
  by_cases q : x = y
  · exact own_st (fun _ => Jvm.Free.XT.acmpYes X.here hx rfl rfl (hb hby hd) rfl hx1 hy1 (decide_eq_true q) ho hp) (hY q)
  · exact own_st (fun _ => Jvm.Free.XT.acmpNo X.here hx rfl (hb hby hd) rfl hx1 hy1 (decide_eq_false q)) (hN q)
theorem own_acmp_ne (X : Stand p l e R s m args below meth c T locs cells slots) (hx : p.tables.exec = Jvm.exec) (hby : c.code = code) {x y : Value} {o : Int} {pc' : Nat} (hx1 : x.isRef = true) (hy1 : y.isRef = true) (hd : decode code pc = .ok (.if_acmp .ne o, 3)) (ho : 0 ≤ (pc : Int) + o) (hp : ((pc : Int) + o).toNat = pc') (hY : ¬ x = y → own_G p e below s Q k n (T.setTop (mkF m pc' Ls st))) (hN : x = y → own_G p e below s Q k n (T.setTop (mkF m (pc + 3) Ls st))) : own_G p e below s Q k n (T.setTop (mkF m pc Ls (y :: x :: st))) := by
  by_cases q : x = y
  · exact own_st (fun _ => Jvm.Free.XT.acmpNo X.here hx rfl (hb hby hd) rfl hx1 hy1 (decide_eq_false (fun z => z q))) (hN q)
  · exact own_st (fun _ => Jvm.Free.XT.acmpYes X.here hx rfl rfl (hb hby hd) rfl hx1 hy1 (decide_eq_true q) ho hp) (hY q)
theorem own_ifnullY (X : Stand p l e R s m args below meth c T locs cells slots) (hx : p.tables.exec = Jvm.exec) (hby : c.code = code) {o : Int} {pc' : Nat} (hd : decode code pc = .ok (.ifnull o, 3)) (ho : 0 ≤ (pc : Int) + o) (hp : ((pc : Int) + o).toNat = pc') (h : own_G p e below s Q k n (T.setTop (mkF m pc' Ls st))) : own_G p e below s Q k n (T.setTop (mkF m pc Ls (.null :: st))) := own_st (fun _ => XS.ifnullYes X.here hx rfl rfl (hb hby hd) rfl ho hp) h
theorem own_ifnullN (X : Stand p l e R s m args below meth c T locs cells slots) (hx : p.tables.exec = Jvm.exec) (hby : c.code = code) {o : Int} {b : Addr} (hd : decode code pc = .ok (.ifnull o, 3)) (h : own_G p e below s Q k n (T.setTop (mkF m (pc + 3) Ls st))) : own_G p e below s Q k n (T.setTop (mkF m pc Ls (.ref b :: st))) := own_st (fun _ => XS.ifnullNo X.here hx rfl (hb hby hd) rfl) h
theorem own_ifnonnullY (X : Stand p l e R s m args below meth c T locs cells slots) (hx : p.tables.exec = Jvm.exec) (hby : c.code = code) {o : Int} {b : Addr} {pc' : Nat} (hd : decode code pc = .ok (.ifnonnull o, 3)) (ho : 0 ≤ (pc : Int) + o) (hp : ((pc : Int) + o).toNat = pc') (h : own_G p e below s Q k n (T.setTop (mkF m pc' Ls st))) : own_G p e below s Q k n (T.setTop (mkF m pc Ls (.ref b :: st))) := own_st (fun _ => XS.ifnonnullYes X.here hx rfl rfl (hb hby hd) rfl ho hp) h
theorem own_ifnonnullN (X : Stand p l e R s m args below meth c T locs cells slots) (hx : p.tables.exec = Jvm.exec) (hby : c.code = code) {o : Int} (hd : decode code pc = .ok (.ifnonnull o, 3)) (h : own_G p e below s Q k n (T.setTop (mkF m (pc + 3) Ls st))) : own_G p e below s Q k n (T.setTop (mkF m pc Ls (.null :: st))) := own_st (fun _ => XS.ifnonnullNo X.here hx rfl (hb hby hd) rfl) h
theorem own_tswIn (X : Stand p l e R s m args below meth c T locs cells slots) (hx : p.tables.exec = Jvm.exec) (hby : c.code = code) {dflt low high : Int} {offs : Array Int} {len : Nat} {o : Int} {pc' : Nat} {i : Int32} (hd : decode code pc = .ok (.tableswitch dflt low high offs, len)) (hin : ¬ (i.toInt < low ∨ i.toInt > high)) (hoff : offs[(i.toInt - low).toNat]? = some o) (ho : 0 ≤ (pc : Int) + o) (hp : ((pc : Int) + o).toNat = pc') (h : own_G p e below s Q k n (T.setTop (mkF m pc' Ls st))) : own_G p e below s Q k n (T.setTop (mkF m pc Ls (.int i :: st))) := own_st (fun _ => XS.tswIn (g := mkF m pc Ls (.int i :: st)) (pc0 := pc) X.here hx rfl rfl (hb hby hd) rfl hin hoff ho hp) h
theorem own_ldcI (X : Stand p l e R s m args below meth c T locs cells slots) (hx : p.tables.exec = Jvm.exec) (hby : c.code = code) (hZ : Z.Warmed39 s.vm) {own : String} {i : Nat} {v : Int32} (hown : s.vm.findClass own = some m.cls) (w : (Cond.constant own i v).before a0 Z = true) (hd : decode code pc = .ok (.ldc i, 2)) (h : own_G p e below s Q k n (T.setTop (mkF m (pc + 2) Ls (.int v :: st)))) : own_G p e below s Q k n (T.setTop (mkF m pc Ls st)) := own_st (X.ldcInt hx hown (mvT hZ w) rfl (hb hby hd)) h
theorem own_ldcJ (X : Stand p l e R s m args below meth c T locs cells slots) (hx : p.tables.exec = Jvm.exec) (hby : c.code = code) (hZ : Z.Warmed39 s.vm) {own : String} {i : Nat} {v : Int64} (hown : s.vm.findClass own = some m.cls) (w : (Cond.constantLong own i v).before a0 Z = true) (hd : decode code pc = .ok (.ldc2_w i, 3)) (h : own_G p e below s Q k n (T.setTop (mkF m (pc + 3) Ls (.long v :: st)))) : own_G p e below s Q k n (T.setTop (mkF m pc Ls st)) := own_st (X.ldc2Long hx hown (mvT hZ w) rfl (hb hby hd)) h
theorem own_instNull (X : Stand p l e R s m args below meth c T locs cells slots) (hx : p.tables.exec = Jvm.exec) (hby : c.code = code) {i : Nat} (hd : decode code pc = .ok (.instanceof i, 3)) (h : own_G p e below s Q k n (T.setTop (mkF m (pc + 3) Ls (.int 0 :: st)))) : own_G p e below s Q k n (T.setTop (mkF m pc Ls (.null :: st))) := own_st (X.instanceofNull hx rfl rfl (hb hby hd)) h
theorem own_castNull (X : Stand p l e R s m args below meth c T locs cells slots) (hx : p.tables.exec = Jvm.exec) (hby : c.code = code) {i : Nat} (hd : decode code pc = .ok (.checkcast i, 3)) (h : own_G p e below s Q k n (T.setTop (mkF m (pc + 3) Ls (.null :: st)))) : own_G p e below s Q k n (T.setTop (mkF m pc Ls (.null :: st))) := own_st (X.checkcastNull hx rfl rfl (hb hby hd)) h
def own_Ar (Z : State) (h : Heap) (a : Addr) (ty : FieldType) (n : Nat) (f : Nat → Value) : Prop := ∃ c : Cell, Arr Z h a c ty ∧ c.slots.size = n ∧ n < 2 ^ 31 ∧ ∀ j, j < n → c.slots[j]? = some (f j)
def own_set (f : Nat → Value) (j : Nat) (v : Value) : Nat → Value := fun i => if i = j then v else f i
theorem own_set_same (f : Nat → Value) (j : Nat) (v : Value) : own_set f j v j = v := if_pos rfl
theorem own_set_ne (f : Nat → Value) {i j : Nat} (v : Value) (q : i ≠ j) : own_set f j v i = f i := if_neg q
theorem own_Ar.lt {a : Addr} {ty : FieldType} {N : Nat} {f : Nat → Value} (F : own_Ar Z h a ty N f) : a < h.size := by obtain ⟨c, A, -⟩ := F; exact A.lt
theorem own_Ar.small {a : Addr} {ty : FieldType} {N : Nat} {f : Nat → Value} (F : own_Ar Z h a ty N f) : N < 2 ^ 31 := by obtain ⟨c, -, -, q, -⟩ := F; exact q
theorem own_Ar.ext {h' : Heap} {a : Addr} {ty : FieldType} {N : Nat} {f : Nat → Value} (F : own_Ar Z h a ty N f) (E : Ext h h') : own_Ar Z h' a ty N f := by obtain ⟨c, A, r⟩ := F; exact ⟨c, A.ext E, r⟩
theorem own_Ar.other {h' : Heap} {a b : Addr} {sl : Nat} {v : Value} {ty : FieldType} {N : Nat} {f : Nat → Value} (F : own_Ar Z h b ty N f) (W : Wr h h' a sl v) (q : b ≠ a) : own_Ar Z h' b ty N f := by obtain ⟨c, A, r⟩ := F; exact ⟨c, A.other W q, r⟩
theorem own_Ar.keep {h' : Heap} {a : Addr} {ws : List Addr} {ty : FieldType} {N : Nat} {f : Nat → Value} (F : own_Ar Z h a ty N f) (K : Keep h h' ws) (q : a ∉ ws) : own_Ar Z h' a ty N f := by obtain ⟨c, A, r⟩ := F; exact ⟨c, ⟨K.2.1 a c A.1 q, A.2⟩, r⟩
theorem own_Ar.fn {a : Addr} {ty : FieldType} {N : Nat} {f g : Nat → Value} (F : own_Ar Z h a ty N f) (q : ∀ j, j < N → f j = g j) : own_Ar Z h a ty N g := by obtain ⟨c, A, r1, r2, r3⟩ := F; exact ⟨c, A, r1, r2, fun j hj => by rw [r3 j hj, q j hj]⟩
theorem own_Ar.store {h' : Heap} {a : Addr} {c : Cell} {ty : FieldType} {N j : Nat} {f : Nat → Value} {v : Value} (A : Arr Z h a c ty) (r1 : c.slots.size = N) (r2 : N < 2 ^ 31) (r3 : ∀ j, j < N → c.slots[j]? = some (f j)) (W : Wr h h' a j v) : own_Ar Z h' a ty N (own_set f j v) := by
  refine ⟨_, A.same W, by rw [sz_set]; exact r1, r2, fun i hi => ?_⟩
  by_cases e : i = j
  · subst e; rw [own_set_same]; simp [Cell.setSlot, r1, hi]
  · rw [own_set_ne _ _ e, ← r3 i hi]; exact Array.getElem?_setIfInBounds_ne (fun q => e q.symm)
theorem own_Ar.new {a : Addr} {ty : FieldType} {kc : ClassId} {z : Int32} (A : Arr Z h a (newA kc ty z) ty) (q : ¬ z < 0) : own_Ar Z h a ty z.toNatClampNeg (fun _ => defaultValue ty) :=
  ⟨_, A, sz_new _ _ _, (back32 q).2, fun j hj => by simp [newA, hj]⟩
theorem own_inb {N : Nat} {j : Int32} {i : Nat} (hj : j.toInt = i) (hi : i < N) : ¬ (j < 0 ∨ N ≤ j.toNatClampNeg) ∧ j.toNatClampNeg = i := by
  have q : j.toNatClampNeg = i := by simp only [Int32.toNatClampNeg, hj]; omega
  refine ⟨?_, q⟩
  rw [q]; simp only [Int32.lt_iff_toInt_lt, hj, Int32.reduceToInt]; omega
def own_Ov (Z : State) (h : Heap) (a : Addr) (C : String) : Prop := ∃ cell : Cell, h[a]? = some cell ∧ Ovr Z cell.cls C
theorem own_Ov.ext {h' : Heap} {a : Addr} {C : String} (F : own_Ov Z h a C) (E : Ext h h') : own_Ov Z h' a C := by obtain ⟨c, h1, h2⟩ := F; exact ⟨c, E.2 _ _ h1, h2⟩
theorem own_Ov.wr {h' : Heap} {a b : Addr} {sl : Nat} {v : Value} {C : String} (F : own_Ov Z h a C) (W : Wr h h' b sl v) : own_Ov Z h' a C := by obtain ⟨c, h1, h2⟩ := F; obtain ⟨c', e1, e2, -⟩ := wr_at W h1; exact ⟨c', e1, by rw [e2]; exact h2⟩
theorem own_Ov.keep {h' : Heap} {a : Addr} {ws : List Addr} {C : String} (F : own_Ov Z h a C) (K : Keep h h' ws) : own_Ov Z h' a C := by obtain ⟨c, h1, h2⟩ := F; obtain ⟨c', e1, e2, -⟩ := K.2.2 _ _ h1; exact ⟨c', e1, by rw [e2]; exact h2⟩
theorem own_sto {a y : Addr} {ty : FieldType} {N : Nat} {f : Nat → Value} {C : String} (F : own_Ar Z h a ty N f) (V : own_Ov Z h a C) (I : Ins Z h y C true) : Sto Z h a (.ref y) := by
  obtain ⟨c, A, -⟩ := F; obtain ⟨c', h1, h2⟩ := V; cases A.1.symm.trans h1; exact Sto.of A h2 I
theorem own_alen (X : Stand p l e R s m args below meth c T locs cells slots) (hx : p.tables.exec = Jvm.exec) (hby : c.code = code) (hZ : Z.Warmed39 s.vm) (eT : T.heap = h) {a : Addr} {ty : FieldType} {N : Nat} {f : Nat → Value} (F : own_Ar Z h a ty N f) (hd : decode code pc = .ok (.arraylength, 1)) (h2 : own_G p e below s Q k n (T.setTop (mkF m (pc + 1) Ls (.int N.toInt32 :: st)))) : own_G p e below s Q k n (T.setTop (mkF m pc Ls (.ref a :: st))) := by
  obtain ⟨cl, A, r1, r2, r3⟩ := F
  refine own_st (fun _ => X.arraylength hx (by rw [eT]; exact A.1) (State.isArrayOf_alike hZ.alike A.2.1) (g := mkF m pc Ls (.ref a :: st)) rfl rfl (hb hby hd) _) ?_
  rw [r1]; exact h2
theorem own_iaload (X : Stand p l e R s m args below meth c T locs cells slots) (hx : p.tables.exec = Jvm.exec) (hby : c.code = code) (hZ : Z.Warmed39 s.vm) (eT : T.heap = h) {a : Addr} {N : Nat} {f : Nat → Value} (F : own_Ar Z h a .int N f) {j : Int32} {i : Nat} (hj : j.toInt = i) (hi : i < N) (hd : decode code pc = .ok (.iaload, 1)) (h2 : own_G p e below s Q k n (T.setTop (mkF m (pc + 1) Ls (f i :: st)))) : own_G p e below s Q k n (T.setTop (mkF m pc Ls (.int j :: .ref a :: st))) := by
  obtain ⟨cl, A, r1, r2, r3⟩ := F
  obtain ⟨q1, q2⟩ := own_inb hj hi
  exact own_st (fun _ => X.iaload hx (v := f i) (by rw [eT]; exact A.1) (State.isArrayOf_alike hZ.alike A.2.1) A.2.2 (j := j) (by rw [r1]; exact q1) (by rw [q2]; exact r3 i hi) (g := mkF m pc Ls (.int j :: .ref a :: st)) rfl rfl (hb hby hd) _) h2
theorem own_laload (X : Stand p l e R s m args below meth c T locs cells slots) (hx : p.tables.exec = Jvm.exec) (hby : c.code = code) (hZ : Z.Warmed39 s.vm) (eT : T.heap = h) {a : Addr} {N : Nat} {f : Nat → Value} (F : own_Ar Z h a .long N f) {j : Int32} {i : Nat} (hj : j.toInt = i) (hi : i < N) (hd : decode code pc = .ok (.laload, 1)) (h2 : own_G p e below s Q k n (T.setTop (mkF m (pc + 1) Ls (f i :: st)))) : own_G p e below s Q k n (T.setTop (mkF m pc Ls (.int j :: .ref a :: st))) := by
  obtain ⟨cl, A, r1, r2, r3⟩ := F
  obtain ⟨q1, q2⟩ := own_inb hj hi
  exact own_st (fun _ => X.laload hx (v := f i) (by rw [eT]; exact A.1) (State.isArrayOf_alike hZ.alike A.2.1) A.2.2 (j := j) (by rw [r1]; exact q1) (by rw [q2]; exact r3 i hi) (g := mkF m pc Ls (.int j :: .ref a :: st)) rfl rfl (hb hby hd) _) h2
theorem own_baload (X : Stand p l e R s m args below meth c T locs cells slots) (hx : p.tables.exec = Jvm.exec) (hby : c.code = code) (hZ : Z.Warmed39 s.vm) (eT : T.heap = h) {a : Addr} {N : Nat} {f : Nat → Value} (F : own_Ar Z h a .byte N f) {j : Int32} {i : Nat} (hj : j.toInt = i) (hi : i < N) (hd : decode code pc = .ok (.baload, 1)) (h2 : own_G p e below s Q k n (T.setTop (mkF m (pc + 1) Ls (f i :: st)))) : own_G p e below s Q k n (T.setTop (mkF m pc Ls (.int j :: .ref a :: st))) := by
  obtain ⟨cl, A, r1, r2, r3⟩ := F
  obtain ⟨q1, q2⟩ := own_inb hj hi
  exact own_st (fun _ => X.baloadBytes hx (v := f i) (by rw [eT]; exact A.1) (State.isArrayOf_alike hZ.alike A.2.1) A.2.2 (j := j) (by rw [r1]; exact q1) (by rw [q2]; exact r3 i hi) (g := mkF m pc Ls (.int j :: .ref a :: st)) rfl rfl (hb hby hd) _) h2
theorem own_caload (X : Stand p l e R s m args below meth c T locs cells slots) (hx : p.tables.exec = Jvm.exec) (hby : c.code = code) (hZ : Z.Warmed39 s.vm) (eT : T.heap = h) {a : Addr} {N : Nat} {f : Nat → Value} (F : own_Ar Z h a .char N f) {j : Int32} {i : Nat} (hj : j.toInt = i) (hi : i < N) (hd : decode code pc = .ok (.caload, 1)) (h2 : own_G p e below s Q k n (T.setTop (mkF m (pc + 1) Ls (f i :: st)))) : own_G p e below s Q k n (T.setTop (mkF m pc Ls (.int j :: .ref a :: st))) := by
  obtain ⟨cl, A, r1, r2, r3⟩ := F
  obtain ⟨q1, q2⟩ := own_inb hj hi
  exact own_st (fun _ => X.caload hx (v := f i) (by rw [eT]; exact A.1) (State.isArrayOf_alike hZ.alike A.2.1) A.2.2 (j := j) (by rw [r1]; exact q1) (by rw [q2]; exact r3 i hi) (g := mkF m pc Ls (.int j :: .ref a :: st)) rfl rfl (hb hby hd) _) h2
theorem own_aaload (X : Stand p l e R s m args below meth c T locs cells slots) (hx : p.tables.exec = Jvm.exec) (hby : c.code = code) (hZ : Z.Warmed39 s.vm) (eT : T.heap = h) {a : Addr} {ty : FieldType} {N : Nat} {f : Nat → Value} (F : own_Ar Z h a ty N f) (hty : ty.isReference = true) {j : Int32} {i : Nat} (hj : j.toInt = i) (hi : i < N) (hd : decode code pc = .ok (.aaload, 1)) (h2 : own_G p e below s Q k n (T.setTop (mkF m (pc + 1) Ls (f i :: st)))) : own_G p e below s Q k n (T.setTop (mkF m pc Ls (.int j :: .ref a :: st))) := by
  obtain ⟨cl, A, r1, r2, r3⟩ := F
  obtain ⟨q1, q2⟩ := own_inb hj hi
  exact own_st (fun _ => X.aaload hx (v := f i) (by rw [eT]; exact A.1) (State.isArrayOf_alike hZ.alike A.2.1) hty A.2.2 (j := j) (by rw [r1]; exact q1) (by rw [q2]; exact r3 i hi) (g := mkF m pc Ls (.int j :: .ref a :: st)) rfl rfl (hb hby hd) _) h2
theorem own_iastore (X : Stand p l e R s m args below meth c T locs cells slots) (hx : p.tables.exec = Jvm.exec) (hby : c.code = code) (hZ : Z.Warmed39 s.vm) (eT : T.heap = h) {a : Addr} {N : Nat} {f : Nat → Value} (F : own_Ar Z h a .int N f) {j : Int32} {i : Nat} (hj : j.toInt = i) (hi : i < N) {x : Int32} (hd : decode code pc = .ok (.iastore, 1)) : ∃ T' h', Stand p l e R s m args below meth c T' (locs ++ [⟨a, i⟩]) cells slots ∧ T'.heap = h' ∧ Wr h h' a i (.int x) ∧ own_Ar Z h' a .int N (own_set f i (.int x)) ∧ ∀ target, Steps p.tables e below (T'.setTop (mkF m (pc + 1) Ls st)) target → Steps p.tables e below (T.setTop (mkF m pc Ls (.int x :: .int j :: .ref a :: st))) target := by
  obtain ⟨cl, A, r1, r2, r3⟩ := F
  obtain ⟨q1, q2⟩ := own_inb hj hi
  obtain ⟨T', h', X', e', W, stp⟩ := stI X hx hZ eT A (j := j) (by rw [r1]; exact q1) (g := mkF m pc Ls (.int x :: .int j :: .ref a :: st)) rfl rfl (hb hby hd)
  rw [q2] at X' W
  exact ⟨T', h', X', e', W, own_Ar.store A r1 r2 r3 W, stp⟩
theorem own_lastore (X : Stand p l e R s m args below meth c T locs cells slots) (hx : p.tables.exec = Jvm.exec) (hby : c.code = code) (hZ : Z.Warmed39 s.vm) (eT : T.heap = h) {a : Addr} {N : Nat} {f : Nat → Value} (F : own_Ar Z h a .long N f) {j : Int32} {i : Nat} (hj : j.toInt = i) (hi : i < N) {x : Int64} (hd : decode code pc = .ok (.lastore, 1)) : ∃ T' h', Stand p l e R s m args below meth c T' (locs ++ [⟨a, i⟩]) cells slots ∧ T'.heap = h' ∧ Wr h h' a i (.long x) ∧ own_Ar Z h' a .long N (own_set f i (.long x)) ∧ ∀ target, Steps p.tables e below (T'.setTop (mkF m (pc + 1) Ls st)) target → Steps p.tables e below (T.setTop (mkF m pc Ls (.long x :: .int j :: .ref a :: st))) target := by
  obtain ⟨cl, A, r1, r2, r3⟩ := F
  obtain ⟨q1, q2⟩ := own_inb hj hi
  obtain ⟨T', h', X', e', W, stp⟩ := stJ X hx hZ eT A (j := j) (by rw [r1]; exact q1) (g := mkF m pc Ls (.long x :: .int j :: .ref a :: st)) rfl rfl (hb hby hd)
  rw [q2] at X' W
  exact ⟨T', h', X', e', W, own_Ar.store A r1 r2 r3 W, stp⟩
theorem own_bastore (X : Stand p l e R s m args below meth c T locs cells slots) (hx : p.tables.exec = Jvm.exec) (hby : c.code = code) (hZ : Z.Warmed39 s.vm) (eT : T.heap = h) {a : Addr} {N : Nat} {f : Nat → Value} (F : own_Ar Z h a .byte N f) {j : Int32} {i : Nat} (hj : j.toInt = i) (hi : i < N) {x : Int32} (hd : decode code pc = .ok (.bastore, 1)) : ∃ T' h', Stand p l e R s m args below meth c T' (locs ++ [⟨a, i⟩]) cells slots ∧ T'.heap = h' ∧ Wr h h' a i (.int (nar .byte x)) ∧ own_Ar Z h' a .byte N (own_set f i (.int (nar .byte x))) ∧ ∀ target, Steps p.tables e below (T'.setTop (mkF m (pc + 1) Ls st)) target → Steps p.tables e below (T.setTop (mkF m pc Ls (.int x :: .int j :: .ref a :: st))) target := by
  obtain ⟨cl, A, r1, r2, r3⟩ := F
  obtain ⟨q1, q2⟩ := own_inb hj hi
  obtain ⟨T', h', X', e', W, stp⟩ := stB X hx hZ eT A (j := j) (by rw [r1]; exact q1) (g := mkF m pc Ls (.int x :: .int j :: .ref a :: st)) rfl rfl (hb hby hd)
  rw [q2] at X' W
  exact ⟨T', h', X', e', W, own_Ar.store A r1 r2 r3 W, stp⟩
theorem own_castore (X : Stand p l e R s m args below meth c T locs cells slots) (hx : p.tables.exec = Jvm.exec) (hby : c.code = code) (hZ : Z.Warmed39 s.vm) (eT : T.heap = h) {a : Addr} {N : Nat} {f : Nat → Value} (F : own_Ar Z h a .char N f) {j : Int32} {i : Nat} (hj : j.toInt = i) (hi : i < N) {x : Int32} (hd : decode code pc = .ok (.castore, 1)) : ∃ T' h', Stand p l e R s m args below meth c T' (locs ++ [⟨a, i⟩]) cells slots ∧ T'.heap = h' ∧ Wr h h' a i (.int (nar .char x)) ∧ own_Ar Z h' a .char N (own_set f i (.int (nar .char x))) ∧ ∀ target, Steps p.tables e below (T'.setTop (mkF m (pc + 1) Ls st)) target → Steps p.tables e below (T.setTop (mkF m pc Ls (.int x :: .int j :: .ref a :: st))) target := by
  obtain ⟨cl, A, r1, r2, r3⟩ := F
  obtain ⟨q1, q2⟩ := own_inb hj hi
  obtain ⟨T', h', X', e', W, stp⟩ := stC X hx hZ eT A (j := j) (by rw [r1]; exact q1) (g := mkF m pc Ls (.int x :: .int j :: .ref a :: st)) rfl rfl (hb hby hd)
  rw [q2] at X' W
  exact ⟨T', h', X', e', W, own_Ar.store A r1 r2 r3 W, stp⟩
theorem own_dastore (X : Stand p l e R s m args below meth c T locs cells slots) (hx : p.tables.exec = Jvm.exec) (hby : c.code = code) (hZ : Z.Warmed39 s.vm) (eT : T.heap = h) {a : Addr} {N : Nat} {f : Nat → Value} (F : own_Ar Z h a .double N f) {j : Int32} {i : Nat} (hj : j.toInt = i) (hi : i < N) {x : UInt64} (hd : decode code pc = .ok (.dastore, 1)) : ∃ T' h', Stand p l e R s m args below meth c T' (locs ++ [⟨a, i⟩]) cells slots ∧ T'.heap = h' ∧ Wr h h' a i (.double x) ∧ own_Ar Z h' a .double N (own_set f i (.double x)) ∧ ∀ target, Steps p.tables e below (T'.setTop (mkF m (pc + 1) Ls st)) target → Steps p.tables e below (T.setTop (mkF m pc Ls (.double x :: .int j :: .ref a :: st))) target := by
  obtain ⟨cl, A, r1, r2, r3⟩ := F
  obtain ⟨q1, q2⟩ := own_inb hj hi
  obtain ⟨T', h', X', e', W, stp⟩ := stD X hx hZ eT A (j := j) (by rw [r1]; exact q1) (g := mkF m pc Ls (.double x :: .int j :: .ref a :: st)) rfl rfl (hb hby hd)
  rw [q2] at X' W
  exact ⟨T', h', X', e', W, own_Ar.store A r1 r2 r3 W, stp⟩
theorem own_aastore (X : Stand p l e R s m args below meth c T locs cells slots) (hx : p.tables.exec = Jvm.exec) (hby : c.code = code) (hZ : Z.Warmed39 s.vm) (eT : T.heap = h) {a : Addr} {ty : FieldType} {N : Nat} {f : Nat → Value} (F : own_Ar Z h a ty N f) (hty : ty.isReference = true) {j : Int32} {i : Nat} (hj : j.toInt = i) (hi : i < N) {v : Value} (S : Sto Z h a v) (hd : decode code pc = .ok (.aastore, 1)) : ∃ T' h', Stand p l e R s m args below meth c T' (locs ++ [⟨a, i⟩]) cells slots ∧ T'.heap = h' ∧ Wr h h' a i v ∧ own_Ar Z h' a ty N (own_set f i v) ∧ ∀ target, Steps p.tables e below (T'.setTop (mkF m (pc + 1) Ls st)) target → Steps p.tables e below (T.setTop (mkF m pc Ls (v :: .int j :: .ref a :: st))) target := by
  obtain ⟨cl, A, r1, r2, r3⟩ := F
  obtain ⟨q1, q2⟩ := own_inb hj hi
  obtain ⟨T', h', X', e', W, stp⟩ := stR X hx hZ eT A (j := j) (by rw [r1]; exact q1) hty S (g := mkF m pc Ls (v :: .int j :: .ref a :: st)) rfl rfl (hb hby hd)
  rw [q2] at X' W
  exact ⟨T', h', X', e', W, own_Ar.store A r1 r2 r3 W, stp⟩
end OwnSteps
theorem own_narR {C : String} {v : Value} (h : v.isRef = true) : narrow (.object C) v = v := by rcases ref_cases h with rfl | ⟨z, rfl⟩ <;> rfl
theorem own_catR {v : Value} (h : v.isRef = true) : v.category = 1 := by rcases ref_cases h with rfl | ⟨z, rfl⟩ <;> rfl
theorem own_fitR {C : String} {v : Value} (h : v.isRef = true) : fits (.object C) v = true := by rcases ref_cases h with rfl | ⟨z, rfl⟩ <;> rfl
theorem own_irr {x : Int32} : ¬ x < x := by rw [Int32.lt_iff_toInt_lt]; omega
theorem own_irrL {x : Int64} : ¬ x < x := by rw [Int64.lt_iff_toInt_lt]; omega
theorem own_w0 {Z : State} {a0 : Array Value} (hw : ∀ d ∈ tables_1, d.before a0 Z = true) : (Jvm.Cond.constant "com/example/inchworm/inchworm/query/NodeTestMayMatchPinLaw" (30 : Nat) (2147483647 : Int32)).before a0 Z = true := hw _ (List.mem_of_getElem? (i := 0) rfl)
theorem own_w1 {Z : State} {a0 : Array Value} (hw : ∀ d ∈ tables_1, d.before a0 Z = true) : (Jvm.Cond.classLink "com/example/inchworm/inchworm/query/NodeTestMayMatchPinLaw" (31 : Nat) "com/example/inchworm/inchworm/query/NodeTest").before a0 Z = true := hw _ (List.mem_of_getElem? (i := 1) rfl)
theorem own_w2 {Z : State} {a0 : Array Value} (hw : ∀ d ∈ tables_1, d.before a0 Z = true) : (Jvm.Cond.instantiable "com/example/inchworm/inchworm/query/NodeTest" (3 : Nat)).before a0 Z = true := hw _ (List.mem_of_getElem? (i := 2) rfl)
theorem own_w3 {Z : State} {a0 : Array Value} (hw : ∀ d ∈ tables_1, d.before a0 Z = true) : (Jvm.Cond.initialized "com/example/inchworm/inchworm/query/NodeTest").before a0 Z = true := hw _ (List.mem_of_getElem? (i := 3) rfl)
theorem own_w4 {Z : State} {a0 : Array Value} (hw : ∀ d ∈ tables_1, d.before a0 Z = true) : (Jvm.Cond.methodLink "com/example/inchworm/inchworm/query/NodeTestMayMatchPinLaw" (33 : Nat) ({ cls := "com/example/inchworm/inchworm/query/NodeTestMayMatchPinLaw", name := "kindOf", desc := "(I)Lcom/example/inchworm/inchworm/label/NodeKind;" } : Jvm.MethodName)).before a0 Z = true := hw _ (List.mem_of_getElem? (i := 4) rfl)
theorem own_w5 {Z : State} {a0 : Array Value} (hw : ∀ d ∈ tables_1, d.before a0 Z = true) : (Jvm.Cond.static ({ cls := "com/example/inchworm/inchworm/query/NodeTestMayMatchPinLaw", name := "kindOf", desc := "(I)Lcom/example/inchworm/inchworm/label/NodeKind;" } : Jvm.MethodName)).before a0 Z = true := hw _ (List.mem_of_getElem? (i := 5) rfl)
theorem own_w6 {Z : State} {a0 : Array Value} (hw : ∀ d ∈ tables_1, d.before a0 Z = true) : (Jvm.Cond.initialized "com/example/inchworm/inchworm/query/NodeTestMayMatchPinLaw").before a0 Z = true := hw _ (List.mem_of_getElem? (i := 6) rfl)
theorem own_w7 {Z : State} {a0 : Array Value} (hw : ∀ d ∈ tables_1, d.before a0 Z = true) : (Jvm.Cond.code ({ cls := "com/example/inchworm/inchworm/query/NodeTestMayMatchPinLaw", name := "kindOf", desc := "(I)Lcom/example/inchworm/inchworm/label/NodeKind;" } : Jvm.MethodName) method_2_code (1 : Nat) (Option.some (Jvm.ClassFile.FieldType.object "com/example/inchworm/inchworm/label/NodeKind"))).before a0 Z = true := hw _ (List.mem_of_getElem? (i := 7) rfl)
theorem own_w8 {Z : State} {a0 : Array Value} (hw : ∀ d ∈ tables_1, d.before a0 Z = true) : (Jvm.Cond.fieldLink "com/example/inchworm/inchworm/query/NodeTestMayMatchPinLaw" (7 : Nat) "com/example/inchworm/inchworm/label/NodeKind" "ELEMENT" "Lcom/example/inchworm/inchworm/label/NodeKind;").before a0 Z = true := hw _ (List.mem_of_getElem? (i := 8) rfl)
theorem own_w9 {Z : State} {a0 : Array Value} (hw : ∀ d ∈ tables_1, d.before a0 Z = true) : (Jvm.Cond.initialized "com/example/inchworm/inchworm/label/NodeKind").before a0 Z = true := hw _ (List.mem_of_getElem? (i := 9) rfl)
theorem own_w10 {Z : State} {a0 : Array Value} (hw : ∀ d ∈ tables_1, d.before a0 Z = true) : (Jvm.Cond.laysStatic "com/example/inchworm/inchworm/label/NodeKind" "ELEMENT" "Lcom/example/inchworm/inchworm/label/NodeKind;").before a0 Z = true := hw _ (List.mem_of_getElem? (i := 10) rfl)
theorem own_w11 {Z : State} {a0 : Array Value} (hw : ∀ d ∈ tables_1, d.before a0 Z = true) : (Jvm.Cond.methodLink "com/example/inchworm/inchworm/query/NodeTestMayMatchPinLaw" (39 : Nat) ({ cls := "com/example/inchworm/inchworm/query/NodeTestMayMatchPinLaw", name := "drawn", desc := "(I)Ljava/lang/String;" } : Jvm.MethodName)).before a0 Z = true := hw _ (List.mem_of_getElem? (i := 11) rfl)
theorem own_w12 {Z : State} {a0 : Array Value} (hw : ∀ d ∈ tables_1, d.before a0 Z = true) : (Jvm.Cond.static ({ cls := "com/example/inchworm/inchworm/query/NodeTestMayMatchPinLaw", name := "drawn", desc := "(I)Ljava/lang/String;" } : Jvm.MethodName)).before a0 Z = true := hw _ (List.mem_of_getElem? (i := 12) rfl)
theorem own_w13 {Z : State} {a0 : Array Value} (hw : ∀ d ∈ tables_1, d.before a0 Z = true) : (Jvm.Cond.code ({ cls := "com/example/inchworm/inchworm/query/NodeTestMayMatchPinLaw", name := "drawn", desc := "(I)Ljava/lang/String;" } : Jvm.MethodName) method_3_code (1 : Nat) (Option.some (Jvm.ClassFile.FieldType.object "java/lang/String"))).before a0 Z = true := hw _ (List.mem_of_getElem? (i := 13) rfl)
theorem own_w14 {Z : State} {a0 : Array Value} (hw : ∀ d ∈ tables_1, d.before a0 Z = true) : (Jvm.Cond.classLink "com/example/inchworm/inchworm/query/NodeTestMayMatchPinLaw" (25 : Nat) "java/lang/String").before a0 Z = true := hw _ (List.mem_of_getElem? (i := 14) rfl)
theorem own_w15 {Z : State} {a0 : Array Value} (hw : ∀ d ∈ tables_1, d.before a0 Z = true) : (Jvm.Cond.instantiable "java/lang/String" (4 : Nat)).before a0 Z = true := hw _ (List.mem_of_getElem? (i := 15) rfl)
theorem own_w16 {Z : State} {a0 : Array Value} (hw : ∀ d ∈ tables_1, d.before a0 Z = true) : (Jvm.Cond.initialized "java/lang/String").before a0 Z = true := hw _ (List.mem_of_getElem? (i := 16) rfl)
theorem own_w17 {Z : State} {a0 : Array Value} (hw : ∀ d ∈ tables_1, d.before a0 Z = true) : (Jvm.Cond.arrayClass Jvm.ClassFile.FieldType.char).before a0 Z = true := hw _ (List.mem_of_getElem? (i := 17) rfl)
theorem own_w18 {Z : State} {a0 : Array Value} (hw : ∀ d ∈ tables_1, d.before a0 Z = true) : (Jvm.Cond.methodLink "com/example/inchworm/inchworm/query/NodeTestMayMatchPinLaw" (27 : Nat) ({ cls := "java/lang/String", name := "<init>", desc := "([C)V" } : Jvm.MethodName)).before a0 Z = true := hw _ (List.mem_of_getElem? (i := 18) rfl)
theorem own_w19 {Z : State} {a0 : Array Value} (hw : ∀ d ∈ tables_1, d.before a0 Z = true) : (Jvm.Cond.instanceMethod ({ cls := "java/lang/String", name := "<init>", desc := "([C)V" } : Jvm.MethodName)).before a0 Z = true := hw _ (List.mem_of_getElem? (i := 19) rfl)
theorem own_w20 {Z : State} {a0 : Array Value} (hw : ∀ d ∈ tables_1, d.before a0 Z = true) : (Jvm.Cond.code ({ cls := "java/lang/String", name := "<init>", desc := "([C)V" } : Jvm.MethodName) jdk_42_method_3_code (2 : Nat) (Option.none : Option Jvm.ClassFile.FieldType)).before a0 Z = true := hw _ (List.mem_of_getElem? (i := 20) rfl)
theorem own_w26 {Z : State} {a0 : Array Value} (hw : ∀ d ∈ tables_1, d.before a0 Z = true) : (Jvm.Cond.instanceMethod ({ cls := "java/lang/Object", name := "<init>", desc := "()V" } : Jvm.MethodName)).before a0 Z = true := hw _ (List.mem_of_getElem? (i := 26) rfl)
theorem own_w27 {Z : State} {a0 : Array Value} (hw : ∀ d ∈ tables_1, d.before a0 Z = true) : (Jvm.Cond.code ({ cls := "java/lang/Object", name := "<init>", desc := "()V" } : Jvm.MethodName) object_method_1_code (1 : Nat) (Option.none : Option Jvm.ClassFile.FieldType)).before a0 Z = true := hw _ (List.mem_of_getElem? (i := 27) rfl)
theorem own_w41 {Z : State} {a0 : Array Value} (hw : ∀ d ∈ tables_1, d.before a0 Z = true) : (Jvm.Cond.laysFinal "java/lang/String" "java/lang/String" "coder" "B").before a0 Z = true := hw _ (List.mem_of_getElem? (i := 41) rfl)
theorem own_w43 {Z : State} {a0 : Array Value} (hw : ∀ d ∈ tables_1, d.before a0 Z = true) : (Jvm.Cond.laysFinal "java/lang/String" "java/lang/String" "value" "[B").before a0 Z = true := hw _ (List.mem_of_getElem? (i := 43) rfl)
theorem own_w44 {Z : State} {a0 : Array Value} (hw : ∀ d ∈ tables_1, d.before a0 Z = true) : (Jvm.Cond.methodLink "com/example/inchworm/inchworm/query/NodeTestMayMatchPinLaw" (43 : Nat) ({ cls := "com/example/inchworm/inchworm/query/NodeTest", name := "<init>", desc := "(Lcom/example/inchworm/inchworm/label/NodeKind;Ljava/lang/String;Ljava/lang/String;)V" } : Jvm.MethodName)).before a0 Z = true := hw _ (List.mem_of_getElem? (i := 44) rfl)
theorem own_w45 {Z : State} {a0 : Array Value} (hw : ∀ d ∈ tables_1, d.before a0 Z = true) : (Jvm.Cond.instanceMethod ({ cls := "com/example/inchworm/inchworm/query/NodeTest", name := "<init>", desc := "(Lcom/example/inchworm/inchworm/label/NodeKind;Ljava/lang/String;Ljava/lang/String;)V" } : Jvm.MethodName)).before a0 Z = true := hw _ (List.mem_of_getElem? (i := 45) rfl)
theorem own_w46 {Z : State} {a0 : Array Value} (hw : ∀ d ∈ tables_1, d.before a0 Z = true) : (Jvm.Cond.code ({ cls := "com/example/inchworm/inchworm/query/NodeTest", name := "<init>", desc := "(Lcom/example/inchworm/inchworm/label/NodeKind;Ljava/lang/String;Ljava/lang/String;)V" } : Jvm.MethodName) prog_56_method_1_code (4 : Nat) (Option.none : Option Jvm.ClassFile.FieldType)).before a0 Z = true := hw _ (List.mem_of_getElem? (i := 46) rfl)
theorem own_w47 {Z : State} {a0 : Array Value} (hw : ∀ d ∈ tables_1, d.before a0 Z = true) : (Jvm.Cond.methodLink "com/example/inchworm/inchworm/query/NodeTest" (1 : Nat) ({ cls := "java/lang/Record", name := "<init>", desc := "()V" } : Jvm.MethodName)).before a0 Z = true := hw _ (List.mem_of_getElem? (i := 47) rfl)
theorem own_w48 {Z : State} {a0 : Array Value} (hw : ∀ d ∈ tables_1, d.before a0 Z = true) : (Jvm.Cond.instanceMethod ({ cls := "java/lang/Record", name := "<init>", desc := "()V" } : Jvm.MethodName)).before a0 Z = true := hw _ (List.mem_of_getElem? (i := 48) rfl)
theorem own_w50 {Z : State} {a0 : Array Value} (hw : ∀ d ∈ tables_1, d.before a0 Z = true) : (Jvm.Cond.initialized "java/lang/Record").before a0 Z = true := hw _ (List.mem_of_getElem? (i := 50) rfl)
theorem own_w51 {Z : State} {a0 : Array Value} (hw : ∀ d ∈ tables_1, d.before a0 Z = true) : (Jvm.Cond.code ({ cls := "java/lang/Record", name := "<init>", desc := "()V" } : Jvm.MethodName) jdk_30_method_1_code (1 : Nat) (Option.none : Option Jvm.ClassFile.FieldType)).before a0 Z = true := hw _ (List.mem_of_getElem? (i := 51) rfl)
theorem own_w52 {Z : State} {a0 : Array Value} (hw : ∀ d ∈ tables_1, d.before a0 Z = true) : (Jvm.Cond.methodLink "java/lang/Record" (1 : Nat) ({ cls := "java/lang/Object", name := "<init>", desc := "()V" } : Jvm.MethodName)).before a0 Z = true := hw _ (List.mem_of_getElem? (i := 52) rfl)
theorem own_w53 {Z : State} {a0 : Array Value} (hw : ∀ d ∈ tables_1, d.before a0 Z = true) : (Jvm.Cond.fieldLink "com/example/inchworm/inchworm/query/NodeTest" (7 : Nat) "com/example/inchworm/inchworm/query/NodeTest" "kind" "Lcom/example/inchworm/inchworm/label/NodeKind;").before a0 Z = true := hw _ (List.mem_of_getElem? (i := 53) rfl)
theorem own_w54 {Z : State} {a0 : Array Value} (hw : ∀ d ∈ tables_1, d.before a0 Z = true) : (Jvm.Cond.laysFinal "com/example/inchworm/inchworm/query/NodeTest" "com/example/inchworm/inchworm/query/NodeTest" "kind" "Lcom/example/inchworm/inchworm/label/NodeKind;").before a0 Z = true := hw _ (List.mem_of_getElem? (i := 54) rfl)
theorem own_w55 {Z : State} {a0 : Array Value} (hw : ∀ d ∈ tables_1, d.before a0 Z = true) : (Jvm.Cond.fieldLink "com/example/inchworm/inchworm/query/NodeTest" (13 : Nat) "com/example/inchworm/inchworm/query/NodeTest" "namespace" "Ljava/lang/String;").before a0 Z = true := hw _ (List.mem_of_getElem? (i := 55) rfl)
theorem own_w56 {Z : State} {a0 : Array Value} (hw : ∀ d ∈ tables_1, d.before a0 Z = true) : (Jvm.Cond.laysFinal "com/example/inchworm/inchworm/query/NodeTest" "com/example/inchworm/inchworm/query/NodeTest" "namespace" "Ljava/lang/String;").before a0 Z = true := hw _ (List.mem_of_getElem? (i := 56) rfl)
theorem own_w57 {Z : State} {a0 : Array Value} (hw : ∀ d ∈ tables_1, d.before a0 Z = true) : (Jvm.Cond.fieldLink "com/example/inchworm/inchworm/query/NodeTest" (17 : Nat) "com/example/inchworm/inchworm/query/NodeTest" "name" "Ljava/lang/String;").before a0 Z = true := hw _ (List.mem_of_getElem? (i := 57) rfl)
theorem own_w58 {Z : State} {a0 : Array Value} (hw : ∀ d ∈ tables_1, d.before a0 Z = true) : (Jvm.Cond.laysFinal "com/example/inchworm/inchworm/query/NodeTest" "com/example/inchworm/inchworm/query/NodeTest" "name" "Ljava/lang/String;").before a0 Z = true := hw _ (List.mem_of_getElem? (i := 58) rfl)
theorem own_w59 {Z : State} {a0 : Array Value} (hw : ∀ d ∈ tables_1, d.before a0 Z = true) : (Jvm.Cond.fieldLink "com/example/inchworm/inchworm/query/NodeTestMayMatchPinLaw" (19 : Nat) "com/example/inchworm/inchworm/label/NodeKind" "COMMENT" "Lcom/example/inchworm/inchworm/label/NodeKind;").before a0 Z = true := hw _ (List.mem_of_getElem? (i := 59) rfl)
theorem own_w60 {Z : State} {a0 : Array Value} (hw : ∀ d ∈ tables_1, d.before a0 Z = true) : (Jvm.Cond.laysStatic "com/example/inchworm/inchworm/label/NodeKind" "COMMENT" "Lcom/example/inchworm/inchworm/label/NodeKind;").before a0 Z = true := hw _ (List.mem_of_getElem? (i := 60) rfl)
theorem own_w61 {Z : State} {a0 : Array Value} (hw : ∀ d ∈ tables_1, d.before a0 Z = true) : (Jvm.Cond.methodLink "com/example/inchworm/inchworm/query/NodeTestMayMatchPinLaw" (46 : Nat) ({ cls := "com/example/inchworm/inchworm/query/NodeTest", name := "mayMatch", desc := "(Lcom/example/inchworm/inchworm/label/NodeKind;)Z" } : Jvm.MethodName)).before a0 Z = true := hw _ (List.mem_of_getElem? (i := 61) rfl)
theorem own_w62 {Z : State} {a0 : Array Value} (hw : ∀ d ∈ tables_1, d.before a0 Z = true) : (Jvm.Cond.declares ({ cls := "com/example/inchworm/inchworm/query/NodeTest", name := "mayMatch", desc := "(Lcom/example/inchworm/inchworm/label/NodeKind;)Z" } : Jvm.MethodName)).before a0 Z = true := hw _ (List.mem_of_getElem? (i := 62) rfl)
theorem own_w63 {Z : State} {a0 : Array Value} (hw : ∀ d ∈ tables_1, d.before a0 Z = true) : (Jvm.Cond.instanceMethod ({ cls := "com/example/inchworm/inchworm/query/NodeTest", name := "mayMatch", desc := "(Lcom/example/inchworm/inchworm/label/NodeKind;)Z" } : Jvm.MethodName)).before a0 Z = true := hw _ (List.mem_of_getElem? (i := 63) rfl)
theorem own_w64 {Z : State} {a0 : Array Value} (hw : ∀ d ∈ tables_1, d.before a0 Z = true) : (Jvm.Cond.selects "com/example/inchworm/inchworm/query/NodeTest" ({ cls := "com/example/inchworm/inchworm/query/NodeTest", name := "mayMatch", desc := "(Lcom/example/inchworm/inchworm/label/NodeKind;)Z" } : Jvm.MethodName) ({ cls := "com/example/inchworm/inchworm/query/NodeTest", name := "mayMatch", desc := "(Lcom/example/inchworm/inchworm/label/NodeKind;)Z" } : Jvm.MethodName)).before a0 Z = true := hw _ (List.mem_of_getElem? (i := 64) rfl)
theorem own_w65 {Z : State} {a0 : Array Value} (hw : ∀ d ∈ tables_1, d.before a0 Z = true) : (Jvm.Cond.code ({ cls := "com/example/inchworm/inchworm/query/NodeTest", name := "mayMatch", desc := "(Lcom/example/inchworm/inchworm/label/NodeKind;)Z" } : Jvm.MethodName) prog_56_method_4_code (2 : Nat) (Option.some Jvm.ClassFile.FieldType.boolean)).before a0 Z = true := hw _ (List.mem_of_getElem? (i := 65) rfl)
theorem own_w66 {Z : State} {a0 : Array Value} (hw : ∀ d ∈ tables_1, d.before a0 Z = true) : (Jvm.Cond.fieldLink "com/example/inchworm/inchworm/query/NodeTestMayMatchPinLaw" (13 : Nat) "com/example/inchworm/inchworm/label/NodeKind" "ATTRIBUTE" "Lcom/example/inchworm/inchworm/label/NodeKind;").before a0 Z = true := hw _ (List.mem_of_getElem? (i := 66) rfl)
theorem own_w67 {Z : State} {a0 : Array Value} (hw : ∀ d ∈ tables_1, d.before a0 Z = true) : (Jvm.Cond.laysStatic "com/example/inchworm/inchworm/label/NodeKind" "ATTRIBUTE" "Lcom/example/inchworm/inchworm/label/NodeKind;").before a0 Z = true := hw _ (List.mem_of_getElem? (i := 67) rfl)
theorem own_w68 {Z : State} {a0 : Array Value} (hw : ∀ d ∈ tables_1, d.before a0 Z = true) : (Jvm.Cond.fieldLink "com/example/inchworm/inchworm/query/NodeTestMayMatchPinLaw" (22 : Nat) "com/example/inchworm/inchworm/label/NodeKind" "PROCESSING_INSTRUCTION" "Lcom/example/inchworm/inchworm/label/NodeKind;").before a0 Z = true := hw _ (List.mem_of_getElem? (i := 68) rfl)
theorem own_w69 {Z : State} {a0 : Array Value} (hw : ∀ d ∈ tables_1, d.before a0 Z = true) : (Jvm.Cond.laysStatic "com/example/inchworm/inchworm/label/NodeKind" "PROCESSING_INSTRUCTION" "Lcom/example/inchworm/inchworm/label/NodeKind;").before a0 Z = true := hw _ (List.mem_of_getElem? (i := 69) rfl)
theorem own_w70 {Z : State} {a0 : Array Value} (hw : ∀ d ∈ tables_1, d.before a0 Z = true) : (Jvm.Cond.fieldLink "com/example/inchworm/inchworm/query/NodeTestMayMatchPinLaw" (16 : Nat) "com/example/inchworm/inchworm/label/NodeKind" "TEXT" "Lcom/example/inchworm/inchworm/label/NodeKind;").before a0 Z = true := hw _ (List.mem_of_getElem? (i := 70) rfl)
theorem own_w71 {Z : State} {a0 : Array Value} (hw : ∀ d ∈ tables_1, d.before a0 Z = true) : (Jvm.Cond.laysStatic "com/example/inchworm/inchworm/label/NodeKind" "TEXT" "Lcom/example/inchworm/inchworm/label/NodeKind;").before a0 Z = true := hw _ (List.mem_of_getElem? (i := 71) rfl)
theorem own_d1_0 : decode method_2_code 0 = .ok (.iload_n 0, 1) := by decide +kernel
theorem own_d1_1 : decode method_2_code 1 = .ok (.ifCond .ne 7, 3) := by decide +kernel
theorem own_d1_4 : decode method_2_code 4 = .ok (.getstatic 7, 3) := by decide +kernel
theorem own_d1_7 : decode method_2_code 7 = .ok (.areturn, 1) := by decide +kernel
theorem own_d1_8 : decode method_2_code 8 = .ok (.iload_n 0, 1) := by decide +kernel
theorem own_d1_9 : decode method_2_code 9 = .ok (.iconst 1, 1) := by decide +kernel
theorem own_d1_10 : decode method_2_code 10 = .ok (.if_icmp .ne 7, 3) := by decide +kernel
theorem own_d1_13 : decode method_2_code 13 = .ok (.getstatic 13, 3) := by decide +kernel
theorem own_d1_16 : decode method_2_code 16 = .ok (.areturn, 1) := by decide +kernel
theorem own_d1_17 : decode method_2_code 17 = .ok (.iload_n 0, 1) := by decide +kernel
theorem own_d1_18 : decode method_2_code 18 = .ok (.iconst 2, 1) := by decide +kernel
theorem own_d1_19 : decode method_2_code 19 = .ok (.if_icmp .ne 7, 3) := by decide +kernel
theorem own_d1_22 : decode method_2_code 22 = .ok (.getstatic 16, 3) := by decide +kernel
theorem own_d1_25 : decode method_2_code 25 = .ok (.areturn, 1) := by decide +kernel
theorem own_d1_26 : decode method_2_code 26 = .ok (.iload_n 0, 1) := by decide +kernel
theorem own_d1_27 : decode method_2_code 27 = .ok (.iconst 3, 1) := by decide +kernel
theorem own_d1_28 : decode method_2_code 28 = .ok (.if_icmp .ne 7, 3) := by decide +kernel
theorem own_d1_31 : decode method_2_code 31 = .ok (.getstatic 19, 3) := by decide +kernel
theorem own_d1_34 : decode method_2_code 34 = .ok (.areturn, 1) := by decide +kernel
theorem own_d1_35 : decode method_2_code 35 = .ok (.iload_n 0, 1) := by decide +kernel
theorem own_d1_36 : decode method_2_code 36 = .ok (.iconst 4, 1) := by decide +kernel
theorem own_d1_37 : decode method_2_code 37 = .ok (.if_icmp .ne 7, 3) := by decide +kernel
theorem own_d1_40 : decode method_2_code 40 = .ok (.getstatic 22, 3) := by decide +kernel
theorem own_d1_43 : decode method_2_code 43 = .ok (.areturn, 1) := by decide +kernel
theorem own_d1_44 : decode method_2_code 44 = .ok (.aconst_null, 1) := by decide +kernel
theorem own_d1_45 : decode method_2_code 45 = .ok (.areturn, 1) := by decide +kernel
theorem own_d2_0 : decode method_3_code 0 = .ok (.iload_n 0, 1) := by decide +kernel
theorem own_d2_1 : decode method_3_code 1 = .ok (.sipush 256, 3) := by decide +kernel
theorem own_d2_4 : decode method_3_code 4 = .ok (.iand, 1) := by decide +kernel
theorem own_d2_5 : decode method_3_code 5 = .ok (.ifCond .eq 5, 3) := by decide +kernel
theorem own_d2_8 : decode method_3_code 8 = .ok (.aconst_null, 1) := by decide +kernel
theorem own_d2_9 : decode method_3_code 9 = .ok (.areturn, 1) := by decide +kernel
theorem own_d2_10 : decode method_3_code 10 = .ok (.new 25, 3) := by decide +kernel
theorem own_d2_13 : decode method_3_code 13 = .ok (.dup, 1) := by decide +kernel
theorem own_d2_14 : decode method_3_code 14 = .ok (.iconst 1, 1) := by decide +kernel
theorem own_d2_15 : decode method_3_code 15 = .ok (.newarray .char, 2) := by decide +kernel
theorem own_d2_17 : decode method_3_code 17 = .ok (.dup, 1) := by decide +kernel
theorem own_d2_18 : decode method_3_code 18 = .ok (.iconst 0, 1) := by decide +kernel
theorem own_d2_19 : decode method_3_code 19 = .ok (.iload_n 0, 1) := by decide +kernel
theorem own_d2_20 : decode method_3_code 20 = .ok (.sipush 255, 3) := by decide +kernel
theorem own_d2_23 : decode method_3_code 23 = .ok (.iand, 1) := by decide +kernel
theorem own_d2_24 : decode method_3_code 24 = .ok (.i2c, 1) := by decide +kernel
theorem own_d2_25 : decode method_3_code 25 = .ok (.castore, 1) := by decide +kernel
theorem own_d2_26 : decode method_3_code 26 = .ok (.invokespecial 27, 3) := by decide +kernel
theorem own_d2_29 : decode method_3_code 29 = .ok (.areturn, 1) := by decide +kernel
theorem own_d9_0 : decode prog_56_method_1_code 0 = .ok (.aload_n 0, 1) := by decide +kernel
theorem own_d9_1 : decode prog_56_method_1_code 1 = .ok (.invokespecial 1, 3) := by decide +kernel
theorem own_d9_4 : decode prog_56_method_1_code 4 = .ok (.aload_n 0, 1) := by decide +kernel
theorem own_d9_5 : decode prog_56_method_1_code 5 = .ok (.aload_n 1, 1) := by decide +kernel
theorem own_d9_6 : decode prog_56_method_1_code 6 = .ok (.putfield 7, 3) := by decide +kernel
theorem own_d9_9 : decode prog_56_method_1_code 9 = .ok (.aload_n 0, 1) := by decide +kernel
theorem own_d9_10 : decode prog_56_method_1_code 10 = .ok (.aload_n 2, 1) := by decide +kernel
theorem own_d9_11 : decode prog_56_method_1_code 11 = .ok (.putfield 13, 3) := by decide +kernel
theorem own_d9_14 : decode prog_56_method_1_code 14 = .ok (.aload_n 0, 1) := by decide +kernel
theorem own_d9_15 : decode prog_56_method_1_code 15 = .ok (.aload_n 3, 1) := by decide +kernel
theorem own_d9_16 : decode prog_56_method_1_code 16 = .ok (.putfield 17, 3) := by decide +kernel
theorem own_d9_19 : decode prog_56_method_1_code 19 = .ok (.return_, 1) := by decide +kernel
theorem own_d10_0 : decode jdk_30_method_1_code 0 = .ok (.aload_n 0, 1) := by decide +kernel
theorem own_d10_1 : decode jdk_30_method_1_code 1 = .ok (.invokespecial 1, 3) := by decide +kernel
theorem own_d10_4 : decode jdk_30_method_1_code 4 = .ok (.return_, 1) := by decide +kernel
theorem own_d11_0 : decode prog_56_method_4_code 0 = .ok (.aload_n 0, 1) := by decide +kernel
theorem own_d11_1 : decode prog_56_method_4_code 1 = .ok (.getfield 7, 3) := by decide +kernel
theorem own_d11_4 : decode prog_56_method_4_code 4 = .ok (.ifnull 11, 3) := by decide +kernel
theorem own_d11_7 : decode prog_56_method_4_code 7 = .ok (.aload_n 0, 1) := by decide +kernel
theorem own_d11_8 : decode prog_56_method_4_code 8 = .ok (.getfield 7, 3) := by decide +kernel
theorem own_d11_11 : decode prog_56_method_4_code 11 = .ok (.aload_n 1, 1) := by decide +kernel
theorem own_d11_12 : decode prog_56_method_4_code 12 = .ok (.if_acmp .ne 7, 3) := by decide +kernel
theorem own_d11_15 : decode prog_56_method_4_code 15 = .ok (.iconst 1, 1) := by decide +kernel
theorem own_d11_16 : decode prog_56_method_4_code 16 = .ok (.goto 4, 3) := by decide +kernel
theorem own_d11_19 : decode prog_56_method_4_code 19 = .ok (.iconst 0, 1) := by decide +kernel
theorem own_d11_20 : decode prog_56_method_4_code 20 = .ok (.ireturn, 1) := by decide +kernel
theorem own_pd0 : parseMethodDescriptor "()V" = some ⟨[], none⟩ := by decide +kernel
theorem own_pd1 : parseMethodDescriptor "([C)V" = some ⟨[(.array .char)], none⟩ := by decide +kernel
theorem own_pd2 : parseMethodDescriptor "(I)Lcom/example/inchworm/inchworm/label/NodeKind;" = some ⟨[.int], some (.object "com/example/inchworm/inchworm/label/NodeKind")⟩ := by decide +kernel
theorem own_pd3 : parseMethodDescriptor "(I)Ljava/lang/String;" = some ⟨[.int], some (.object "java/lang/String")⟩ := by decide +kernel
theorem own_pd4 : parseMethodDescriptor "(Lcom/example/inchworm/inchworm/label/NodeKind;Ljava/lang/String;Ljava/lang/String;)V" = some ⟨[(.object "com/example/inchworm/inchworm/label/NodeKind"), (.object "java/lang/String"), (.object "java/lang/String")], none⟩ := by decide +kernel
theorem own_pd5 : parseMethodDescriptor "(Lcom/example/inchworm/inchworm/label/NodeKind;)Z" = some ⟨[(.object "com/example/inchworm/inchworm/label/NodeKind")], some .boolean⟩ := by decide +kernel
theorem own_pn0 : plainName "com/example/inchworm/inchworm/query/NodeTestMayMatchPinLaw" = true := by first | (simp [plainName, overriddenIn]; done) | decide +kernel
theorem own_pn1 : plainName "java/lang/Record" = true := by first | (simp [plainName, overriddenIn]; done) | decide +kernel
theorem own_pn2 : plainName "com/example/inchworm/inchworm/query/NodeTest" = true := by first | (simp [plainName, overriddenIn]; done) | decide +kernel
def own_En (Z : State) (C f d : String) (a : Addr) (k : Int32) : Prop := Sta Z Z.heap C f d (.ref a) ∧ Exa Z Z.heap a C ∧ Fld Z Z.heap a "java/lang/Enum" "ordinal" "I" (.int k)
theorem own_enum {args : Array Value} {s : State} {C f d : String} {k : Int32} (hx : (Cond.exactly (.static C f d) C).value args s none s [] = some true) (ho : (Cond.eq (.field (.static C f d) "java/lang/Enum" "ordinal" "I") (.int k)).value args s none s [] = some true) (hi : (Cond.initialized C).before args s = true) (hl : (Cond.laysStatic C f d).before args s = true) : ∃ a, own_En s C f d a k := by
  obtain ⟨a, ev⟩ := exa_v hx
  obtain ⟨x, y, e1, e2, k1, k2⟩ := cmp_v (Or.inl ho)
  cases (show some (Value.int k) = some y from e2)
  obtain ⟨z, rfl⟩ := k2
  have q : z = k := by simp only [Cond.value] at ho; rw [e1, e2] at ho; simpa using ho
  subst q
  exact ⟨a, Sta.start ev (Or.inr ⟨hi, hl⟩), Exa.start ev hx, Fld.start ((fld_at ev).symm.trans e1)⟩
def own_kd (i : Int32) (a_ELEMENT a_ATTRIBUTE a_TEXT a_COMMENT a_PROCESSING_INSTRUCTION : Addr) : Value := if i = (0 : Int32) then .ref a_ELEMENT else if i = (1 : Int32) then .ref a_ATTRIBUTE else if i = (2 : Int32) then .ref a_TEXT else if i = (3 : Int32) then .ref a_COMMENT else if i = (4 : Int32) then .ref a_PROCESSING_INSTRUCTION else .null
theorem own_kd_ref (i : Int32) (a_ELEMENT a_ATTRIBUTE a_TEXT a_COMMENT a_PROCESSING_INSTRUCTION : Addr) : (own_kd i a_ELEMENT a_ATTRIBUTE a_TEXT a_COMMENT a_PROCESSING_INSTRUCTION).isRef = true := by
  unfold own_kd
  split
  · rfl
  split
  · rfl
  split
  · rfl
  split
  · rfl
  split
  · rfl
  rfl
def own_mm (x y : Value) : Int32 := if x = y then 1 else 0
theorem own_mod6 (x : Int32) : (x &&& (2147483647 : Int32)) % (6 : Int32) = 0 ∨ (x &&& (2147483647 : Int32)) % (6 : Int32) = 1 ∨ (x &&& (2147483647 : Int32)) % (6 : Int32) = 2 ∨ (x &&& (2147483647 : Int32)) % (6 : Int32) = 3 ∨ (x &&& (2147483647 : Int32)) % (6 : Int32) = 4 ∨ (x &&& (2147483647 : Int32)) % (6 : Int32) = 5 := by
  have h := c_and x (2147483647 : Int32) (by decide)
  have h2 := (c_irem (x &&& (2147483647 : Int32)) 6 6 (by decide)).1 h.1
  simp only [← Int32.toInt_inj, h2, Int32.reduceToInt]
  omega
theorem own_and255 (x : Int32) : ¬ (x &&& 255) < 0 ∧ ¬ (255 : Int32) < (x &&& 255) := by
  have h := c_and x (255 : Int32) (by decide)
  simp only [Int32.lt_iff_toInt_lt, Int32.reduceToInt] at h ⊢; omega
theorem own_Ar.arv1 {Z : State} {h : Heap} {a : Addr} {f : Nat → Value} {x : Int32} (F : own_Ar Z h a .char 1 f) (e : f 0 = .int x) (q : fits .char (.int x) = true) : ∃ k, Arv Z h a k .char (1 : Int32) ([x].map Value.int) (.int (0 : Int32)) := by
  obtain ⟨c, A, r1, r2, r3⟩ := F
  refine ⟨c.cls, c, A, rfl, by rw [r1]; rfl, by decide, fun k hk => ?_, fun i hi => ?_⟩
  · have : k = 0 := by omega
    subst this; rw [r3 0 (by omega), e]; rfl
  · have : i = 0 := by omega
    subst this; exact q
theorem own_kd_inj_ELEMENT {i : Int32} {a_ELEMENT a_ATTRIBUTE a_TEXT a_COMMENT a_PROCESSING_INSTRUCTION : Addr} (n_ATTRIBUTE : a_ATTRIBUTE ≠ a_ELEMENT) (n_TEXT : a_TEXT ≠ a_ELEMENT) (n_COMMENT : a_COMMENT ≠ a_ELEMENT) (n_PROCESSING_INSTRUCTION : a_PROCESSING_INSTRUCTION ≠ a_ELEMENT) (h : own_kd i a_ELEMENT a_ATTRIBUTE a_TEXT a_COMMENT a_PROCESSING_INSTRUCTION = .ref a_ELEMENT) : i = (0 : Int32) := by
  unfold own_kd at h
  split at h
  · assumption
  · split at h
    · exact absurd (Value.ref.inj h) n_ATTRIBUTE
    · split at h
      · exact absurd (Value.ref.inj h) n_TEXT
      · split at h
        · exact absurd (Value.ref.inj h) n_COMMENT
        · split at h
          · exact absurd (Value.ref.inj h) n_PROCESSING_INSTRUCTION
          · cases h
theorem own_kd_inj_ATTRIBUTE {i : Int32} {a_ELEMENT a_ATTRIBUTE a_TEXT a_COMMENT a_PROCESSING_INSTRUCTION : Addr} (n_ELEMENT : a_ELEMENT ≠ a_ATTRIBUTE) (n_TEXT : a_TEXT ≠ a_ATTRIBUTE) (n_COMMENT : a_COMMENT ≠ a_ATTRIBUTE) (n_PROCESSING_INSTRUCTION : a_PROCESSING_INSTRUCTION ≠ a_ATTRIBUTE) (h : own_kd i a_ELEMENT a_ATTRIBUTE a_TEXT a_COMMENT a_PROCESSING_INSTRUCTION = .ref a_ATTRIBUTE) : i = (1 : Int32) := by
  unfold own_kd at h
  split at h
  · exact absurd (Value.ref.inj h) n_ELEMENT
  · split at h
    · assumption
    · split at h
      · exact absurd (Value.ref.inj h) n_TEXT
      · split at h
        · exact absurd (Value.ref.inj h) n_COMMENT
        · split at h
          · exact absurd (Value.ref.inj h) n_PROCESSING_INSTRUCTION
          · cases h
theorem own_kd_inj_TEXT {i : Int32} {a_ELEMENT a_ATTRIBUTE a_TEXT a_COMMENT a_PROCESSING_INSTRUCTION : Addr} (n_ELEMENT : a_ELEMENT ≠ a_TEXT) (n_ATTRIBUTE : a_ATTRIBUTE ≠ a_TEXT) (n_COMMENT : a_COMMENT ≠ a_TEXT) (n_PROCESSING_INSTRUCTION : a_PROCESSING_INSTRUCTION ≠ a_TEXT) (h : own_kd i a_ELEMENT a_ATTRIBUTE a_TEXT a_COMMENT a_PROCESSING_INSTRUCTION = .ref a_TEXT) : i = (2 : Int32) := by
  unfold own_kd at h
  split at h
  · exact absurd (Value.ref.inj h) n_ELEMENT
  · split at h
    · exact absurd (Value.ref.inj h) n_ATTRIBUTE
    · split at h
      · assumption
      · split at h
        · exact absurd (Value.ref.inj h) n_COMMENT
        · split at h
          · exact absurd (Value.ref.inj h) n_PROCESSING_INSTRUCTION
          · cases h
theorem own_kd_inj_COMMENT {i : Int32} {a_ELEMENT a_ATTRIBUTE a_TEXT a_COMMENT a_PROCESSING_INSTRUCTION : Addr} (n_ELEMENT : a_ELEMENT ≠ a_COMMENT) (n_ATTRIBUTE : a_ATTRIBUTE ≠ a_COMMENT) (n_TEXT : a_TEXT ≠ a_COMMENT) (n_PROCESSING_INSTRUCTION : a_PROCESSING_INSTRUCTION ≠ a_COMMENT) (h : own_kd i a_ELEMENT a_ATTRIBUTE a_TEXT a_COMMENT a_PROCESSING_INSTRUCTION = .ref a_COMMENT) : i = (3 : Int32) := by
  unfold own_kd at h
  split at h
  · exact absurd (Value.ref.inj h) n_ELEMENT
  · split at h
    · exact absurd (Value.ref.inj h) n_ATTRIBUTE
    · split at h
      · exact absurd (Value.ref.inj h) n_TEXT
      · split at h
        · assumption
        · split at h
          · exact absurd (Value.ref.inj h) n_PROCESSING_INSTRUCTION
          · cases h
theorem own_kd_inj_PROCESSING_INSTRUCTION {i : Int32} {a_ELEMENT a_ATTRIBUTE a_TEXT a_COMMENT a_PROCESSING_INSTRUCTION : Addr} (n_ELEMENT : a_ELEMENT ≠ a_PROCESSING_INSTRUCTION) (n_ATTRIBUTE : a_ATTRIBUTE ≠ a_PROCESSING_INSTRUCTION) (n_TEXT : a_TEXT ≠ a_PROCESSING_INSTRUCTION) (n_COMMENT : a_COMMENT ≠ a_PROCESSING_INSTRUCTION) (h : own_kd i a_ELEMENT a_ATTRIBUTE a_TEXT a_COMMENT a_PROCESSING_INSTRUCTION = .ref a_PROCESSING_INSTRUCTION) : i = (4 : Int32) := by
  unfold own_kd at h
  split at h
  · exact absurd (Value.ref.inj h) n_ELEMENT
  · split at h
    · exact absurd (Value.ref.inj h) n_ATTRIBUTE
    · split at h
      · exact absurd (Value.ref.inj h) n_TEXT
      · split at h
        · exact absurd (Value.ref.inj h) n_COMMENT
        · split at h
          · assumption
          · cases h

def own_rm1_Q (Z : State) (i : Int32) (a_ELEMENT a_ATTRIBUTE a_TEXT a_COMMENT a_PROCESSING_INSTRUCTION : Addr) (h0 : Heap) (n0 : Nat) : Option Value → Heap → List Loc → Prop := fun v h L => v = some (own_kd i a_ELEMENT a_ATTRIBUTE a_TEXT a_COMMENT a_PROCESSING_INSTRUCTION) ∧ h = h0 ∧ Fr n0 L
theorem own_rm1_ef (m : MethodId) (i : Int32)  : entryFrame m #[(Value.int i)] 1 = mkF m 0 #[.val (Value.int i)] [] := by first | (simp [entryFrame, mkF, argsToLocals, Value.category]; done) | rfl
set_option maxRecDepth 65536 in
set_option maxHeartbeats 40000000 in
theorem own_rm1 (l : Launch) (Z : State) (a0 : Array Value) (hw : ∀ d ∈ tables_1, d.before a0 Z = true) (ws : List Jvm.Cond) (i : Int32) (a_ELEMENT a_ATTRIBUTE a_TEXT a_COMMENT a_PROCESSING_INSTRUCTION : Addr) (h0 : Heap) (n0 : Nat) (O0 : Old Z n0 h0) (En_ELEMENT : own_En Z "com/example/inchworm/inchworm/label/NodeKind" "ELEMENT" "Lcom/example/inchworm/inchworm/label/NodeKind;" a_ELEMENT 0) (En_ATTRIBUTE : own_En Z "com/example/inchworm/inchworm/label/NodeKind" "ATTRIBUTE" "Lcom/example/inchworm/inchworm/label/NodeKind;" a_ATTRIBUTE 1) (En_TEXT : own_En Z "com/example/inchworm/inchworm/label/NodeKind" "TEXT" "Lcom/example/inchworm/inchworm/label/NodeKind;" a_TEXT 2) (En_COMMENT : own_En Z "com/example/inchworm/inchworm/label/NodeKind" "COMMENT" "Lcom/example/inchworm/inchworm/label/NodeKind;" a_COMMENT 3) (En_PROCESSING_INSTRUCTION : own_En Z "com/example/inchworm/inchworm/label/NodeKind" "PROCESSING_INSTRUCTION" "Lcom/example/inchworm/inchworm/label/NodeKind;" a_PROCESSING_INSTRUCTION 4) :
    MetFree l (⟨"com/example/inchworm/inchworm/query/NodeTestMayMatchPinLaw", "kindOf", "(I)Lcom/example/inchworm/inchworm/label/NodeKind;"⟩ : MethodName) (head1 (Jvm.Cond.code (⟨"com/example/inchworm/inchworm/query/NodeTestMayMatchPinLaw", "kindOf", "(I)Lcom/example/inchworm/inchworm/label/NodeKind;"⟩ : MethodName) method_2_code 1 (some (.object "com/example/inchworm/inchworm/label/NodeKind")) :: ws) ({ frames := 0, cells := 0, slots := 0, locals := 0 } : Room)) (fun aa_ U => aa_ = #[(Value.int i)] ∧ Z.Warmed39 U.vm ∧ U.heap = h0) (fun _ _ _ _ _ => True) (fun _ UU_ oo_ UX_ => ∃ vv_ LL_, oo_ = .returned vv_ ∧ (own_rm1_Q Z i a_ELEMENT a_ATTRIBUTE a_TEXT a_COMMENT a_PROCESSING_INSTRUCTION h0 n0) vv_ UX_.heap LL_ ∧ FrameEnd UU_ oo_ UX_ LL_ ({ frames := 0, cells := 0, slots := 0, locals := 0 } : Room).cells ({ frames := 0, cells := 0, slots := 0, locals := 0 } : Room).slots) := by
  refine MetFree.of_bodySF (plainFor_of_name own_pn0) hisR ?_
  intro p e s m args below meth c s₁ Bd hml0 hP hK
  obtain ⟨rfl, hZ, hh⟩ := hP
  have hx := Bd.exec
  have hby := Bd.bytes
  have hml : c.maxLocals = 1 := hml0
  have hown : s.vm.findClass "com/example/inchworm/inchworm/query/NodeTestMayMatchPinLaw" = some m.cls := findClass_of_methodNamed Bd.named
  have hnm := (name_of_methodNamed Bd.named Bd.method).1
  have hlk : meth.locks = false := BodyLoose.notSynchronized Bd
  have X0 : Stand p l e ({ frames := 0, cells := 0, slots := 0, locals := 0 } : Room) s m #[(Value.int i)] below meth c s₁ [] 0 0 := Stand.of_body Bd
  have e0 : s₁.heap = h0 := by rw [← hh, Bd.state]; rfl
  have N0 := Fr.nil n0
  show own_G p e below s (own_rm1_Q Z i a_ELEMENT a_ATTRIBUTE a_TEXT a_COMMENT a_PROCESSING_INSTRUCTION h0 n0) ({ frames := 0, cells := 0, slots := 0, locals := 0 } : Room).cells ({ frames := 0, cells := 0, slots := 0, locals := 0 } : Room).slots (s₁.setTop (entryFrame m #[(Value.int i)] 1))
  refine own_cast (own_rm1_ef m i ) ?_
  show own_G p e below s _ _ _ (s₁.setTop (mkF m 0 #[.val (Value.int i)] []))
  refine own_iloadN X0 hx hby own_d1_0 rfl ?_
  show own_G p e below s _ _ _ (s₁.setTop (mkF m 1 #[.val (Value.int i)] [(Value.int i)]))
  refine own_if_ne X0 hx hby own_d1_1 (pc' := 8) (by decide) (by decide) (fun hb1 => ?_) (fun hb1 => ?_)
  · show own_G p e below s _ _ _ (s₁.setTop (mkF m 8 #[.val (Value.int i)] []))
    refine own_iloadN X0 hx hby own_d1_8 rfl ?_
    show own_G p e below s _ _ _ (s₁.setTop (mkF m 9 #[.val (Value.int i)] [(Value.int i)]))
    refine own_iconst X0 hx hby own_d1_9 ?_
    show own_G p e below s _ _ _ (s₁.setTop (mkF m 10 #[.val (Value.int i)] [(Value.int (1 : Int32)), (Value.int i)]))
    refine own_icmp_ne X0 hx hby own_d1_10 (pc' := 17) (by decide) (by decide) (fun hb2 => ?_) (fun hb2 => ?_)
    · show own_G p e below s _ _ _ (s₁.setTop (mkF m 17 #[.val (Value.int i)] []))
      refine own_iloadN X0 hx hby own_d1_17 rfl ?_
      show own_G p e below s _ _ _ (s₁.setTop (mkF m 18 #[.val (Value.int i)] [(Value.int i)]))
      refine own_iconst X0 hx hby own_d1_18 ?_
      show own_G p e below s _ _ _ (s₁.setTop (mkF m 19 #[.val (Value.int i)] [(Value.int (2 : Int32)), (Value.int i)]))
      refine own_icmp_ne X0 hx hby own_d1_19 (pc' := 26) (by decide) (by decide) (fun hb3 => ?_) (fun hb3 => ?_)
      · show own_G p e below s _ _ _ (s₁.setTop (mkF m 26 #[.val (Value.int i)] []))
        refine own_iloadN X0 hx hby own_d1_26 rfl ?_
        show own_G p e below s _ _ _ (s₁.setTop (mkF m 27 #[.val (Value.int i)] [(Value.int i)]))
        refine own_iconst X0 hx hby own_d1_27 ?_
        show own_G p e below s _ _ _ (s₁.setTop (mkF m 28 #[.val (Value.int i)] [(Value.int (3 : Int32)), (Value.int i)]))
        refine own_icmp_ne X0 hx hby own_d1_28 (pc' := 35) (by decide) (by decide) (fun hb4 => ?_) (fun hb4 => ?_)
        · show own_G p e below s _ _ _ (s₁.setTop (mkF m 35 #[.val (Value.int i)] []))
          refine own_iloadN X0 hx hby own_d1_35 rfl ?_
          show own_G p e below s _ _ _ (s₁.setTop (mkF m 36 #[.val (Value.int i)] [(Value.int i)]))
          refine own_iconst X0 hx hby own_d1_36 ?_
          show own_G p e below s _ _ _ (s₁.setTop (mkF m 37 #[.val (Value.int i)] [(Value.int (4 : Int32)), (Value.int i)]))
          refine own_icmp_ne X0 hx hby own_d1_37 (pc' := 44) (by decide) (by decide) (fun hb5 => ?_) (fun hb5 => ?_)
          · show own_G p e below s _ _ _ (s₁.setTop (mkF m 44 #[.val (Value.int i)] []))
            refine own_aconst_null X0 hx hby own_d1_44 ?_
            show own_G p e below s _ _ _ (s₁.setTop (mkF m 45 #[.val (Value.int i)] [Value.null]))
            refine own_retA X0 hx hby hlk Bd.returns rfl rfl rfl own_d1_45 (by decide) (by decide) ?_
            refine ⟨?_, e0, N0⟩
            show some Value.null = _
            simp only [own_kd, if_neg hb1, if_neg hb2, if_neg hb3, if_neg hb4, if_neg hb5]
          · show own_G p e below s _ _ _ (s₁.setTop (mkF m 40 #[.val (Value.int i)] []))
            obtain ⟨T6, X6, e6, st6⟩ := getS2 X0 hx hZ hown (host := "") (Or.inl (own_w68 hw)) Via.refl e0 (Sta.ext O0.2 En_PROCESSING_INSTRUCTION.1) (g := (mkF m 40 #[.val (Value.int i)] [])) rfl (hb hby own_d1_40)
            refine own_st st6 ?_
            show own_G p e below s _ _ _ (T6.setTop (mkF m 43 #[.val (Value.int i)] [(Value.ref a_PROCESSING_INSTRUCTION)]))
            refine own_retA X6 hx hby hlk Bd.returns rfl rfl rfl own_d1_43 (by decide) (by decide) ?_
            refine ⟨?_, e6, N0⟩
            show some (Value.ref a_PROCESSING_INSTRUCTION) = _
            simp only [own_kd, if_neg hb1, if_neg hb2, if_neg hb3, if_neg hb4, if_pos hb5]
        · show own_G p e below s _ _ _ (s₁.setTop (mkF m 31 #[.val (Value.int i)] []))
          obtain ⟨T7, X7, e7, st7⟩ := getS2 X0 hx hZ hown (host := "") (Or.inl (own_w59 hw)) Via.refl e0 (Sta.ext O0.2 En_COMMENT.1) (g := (mkF m 31 #[.val (Value.int i)] [])) rfl (hb hby own_d1_31)
          refine own_st st7 ?_
          show own_G p e below s _ _ _ (T7.setTop (mkF m 34 #[.val (Value.int i)] [(Value.ref a_COMMENT)]))
          refine own_retA X7 hx hby hlk Bd.returns rfl rfl rfl own_d1_34 (by decide) (by decide) ?_
          refine ⟨?_, e7, N0⟩
          show some (Value.ref a_COMMENT) = _
          simp only [own_kd, if_neg hb1, if_neg hb2, if_neg hb3, if_pos hb4]
      · show own_G p e below s _ _ _ (s₁.setTop (mkF m 22 #[.val (Value.int i)] []))
        obtain ⟨T8, X8, e8, st8⟩ := getS2 X0 hx hZ hown (host := "") (Or.inl (own_w70 hw)) Via.refl e0 (Sta.ext O0.2 En_TEXT.1) (g := (mkF m 22 #[.val (Value.int i)] [])) rfl (hb hby own_d1_22)
        refine own_st st8 ?_
        show own_G p e below s _ _ _ (T8.setTop (mkF m 25 #[.val (Value.int i)] [(Value.ref a_TEXT)]))
        refine own_retA X8 hx hby hlk Bd.returns rfl rfl rfl own_d1_25 (by decide) (by decide) ?_
        refine ⟨?_, e8, N0⟩
        show some (Value.ref a_TEXT) = _
        simp only [own_kd, if_neg hb1, if_neg hb2, if_pos hb3]
    · show own_G p e below s _ _ _ (s₁.setTop (mkF m 13 #[.val (Value.int i)] []))
      obtain ⟨T9, X9, e9, st9⟩ := getS2 X0 hx hZ hown (host := "") (Or.inl (own_w66 hw)) Via.refl e0 (Sta.ext O0.2 En_ATTRIBUTE.1) (g := (mkF m 13 #[.val (Value.int i)] [])) rfl (hb hby own_d1_13)
      refine own_st st9 ?_
      show own_G p e below s _ _ _ (T9.setTop (mkF m 16 #[.val (Value.int i)] [(Value.ref a_ATTRIBUTE)]))
      refine own_retA X9 hx hby hlk Bd.returns rfl rfl rfl own_d1_16 (by decide) (by decide) ?_
      refine ⟨?_, e9, N0⟩
      show some (Value.ref a_ATTRIBUTE) = _
      simp only [own_kd, if_neg hb1, if_pos hb2]
  · show own_G p e below s _ _ _ (s₁.setTop (mkF m 4 #[.val (Value.int i)] []))
    obtain ⟨T10, X10, e10, st10⟩ := getS2 X0 hx hZ hown (host := "") (Or.inl (own_w8 hw)) Via.refl e0 (Sta.ext O0.2 En_ELEMENT.1) (g := (mkF m 4 #[.val (Value.int i)] [])) rfl (hb hby own_d1_4)
    refine own_st st10 ?_
    show own_G p e below s _ _ _ (T10.setTop (mkF m 7 #[.val (Value.int i)] [(Value.ref a_ELEMENT)]))
    refine own_retA X10 hx hby hlk Bd.returns rfl rfl rfl own_d1_7 (by decide) (by decide) ?_
    refine ⟨?_, e10, N0⟩
    show some (Value.ref a_ELEMENT) = _
    simp only [own_kd, if_pos hb1]
def own_rm10_Q (Z : State) (a : Addr)  (h0 : Heap) (n0 : Nat) : Option Value → Heap → List Loc → Prop := fun v h L => v = none ∧ h = h0 ∧ Fr n0 L
theorem own_rm10_ef (m : MethodId) (a : Addr)  : entryFrame m #[(Value.ref a)] 1 = mkF m 0 #[.val (Value.ref a)] [] := by first | (simp [entryFrame, mkF, argsToLocals, Value.category]; done) | rfl
set_option maxRecDepth 65536 in
set_option maxHeartbeats 40000000 in
theorem own_rm10 (l : Launch) (Z : State) (a0 : Array Value) (hw : ∀ d ∈ tables_1, d.before a0 Z = true) (ws : List Jvm.Cond) (a : Addr)  (h0 : Heap) (n0 : Nat) (O0 : Old Z n0 h0)  :
    MetFree l (⟨"java/lang/Record", "<init>", "()V"⟩ : MethodName) (head1 (Jvm.Cond.code (⟨"java/lang/Record", "<init>", "()V"⟩ : MethodName) jdk_30_method_1_code 1 none :: ws) ({ frames := 1, cells := 0, slots := 0, locals := 12 } : Room)) (fun aa_ U => aa_ = #[(Value.ref a)] ∧ Z.Warmed39 U.vm ∧ U.heap = h0) (fun _ _ _ _ _ => True) (fun _ UU_ oo_ UX_ => ∃ vv_ LL_, oo_ = .returned vv_ ∧ (own_rm10_Q Z a h0 n0) vv_ UX_.heap LL_ ∧ FrameEnd UU_ oo_ UX_ LL_ ({ frames := 1, cells := 0, slots := 0, locals := 12 } : Room).cells ({ frames := 1, cells := 0, slots := 0, locals := 12 } : Room).slots) := by
  refine MetFree.of_bodySF (plainFor_of_name own_pn1) hisR ?_
  intro p e s m args below meth c s₁ Bd hml0 hP hK
  obtain ⟨rfl, hZ, hh⟩ := hP
  have hx := Bd.exec
  have hby := Bd.bytes
  have hml : c.maxLocals = 1 := hml0
  have hown : s.vm.findClass "java/lang/Record" = some m.cls := findClass_of_methodNamed Bd.named
  have hnm := (name_of_methodNamed Bd.named Bd.method).1
  have hlk : meth.locks = false := BodyLoose.notSynchronized Bd
  have X0 : Stand p l e ({ frames := 1, cells := 0, slots := 0, locals := 12 } : Room) s m #[(Value.ref a)] below meth c s₁ [] 0 0 := Stand.of_body Bd
  have e0 : s₁.heap = h0 := by rw [← hh, Bd.state]; rfl
  have N0 := Fr.nil n0
  show own_G p e below s (own_rm10_Q Z a h0 n0) ({ frames := 1, cells := 0, slots := 0, locals := 12 } : Room).cells ({ frames := 1, cells := 0, slots := 0, locals := 12 } : Room).slots (s₁.setTop (entryFrame m #[(Value.ref a)] 1))
  refine own_cast (own_rm10_ef m a ) ?_
  show own_G p e below s _ _ _ (s₁.setTop (mkF m 0 #[.val (Value.ref a)] []))
  refine own_aloadN X0 hx hby own_d10_0 rfl rfl ?_
  show own_G p e below s _ _ _ (s₁.setTop (mkF m 1 #[.val (Value.ref a)] [(Value.ref a)]))
  obtain ⟨T1, X1, e1, st1⟩ := initO X0 hx hZ hown (own_w52 hw) (own_w26 hw) (own_w27 hw) e0 (g := (mkF m 1 #[.val (Value.ref a)] [(Value.ref a)])) rfl (by rw [hml]; rfl) rfl (hb hby own_d10_1) (by decide) (W := 0) (by show 2 * 0 + _ ≤ _; exact Nat.le_of_eq rfl) (by decide)
  refine own_st st1 ?_
  show own_G p e below s _ _ _ (T1.setTop (mkF m 4 #[.val (Value.ref a)] []))
  refine own_ret0 X1 hx hby hlk Bd.returns own_d10_4 (by decide) (by decide) ?_
  refine ⟨?_, e1, N0⟩
  rfl
def own_rmTA_Q (Z : State) (a : Addr) (q : Addr) (r1 : Value) (r2 : Value)  (h0 : Heap) (n0 : Nat) : Option Value → Heap → List Loc → Prop := fun v h L => v = none ∧ Fr n0 L ∧ Keep h0 h [a] ∧ Exa Z h a "com/example/inchworm/inchworm/query/NodeTest" ∧ Fld Z h a "com/example/inchworm/inchworm/query/NodeTest" "kind" "Lcom/example/inchworm/inchworm/label/NodeKind;" (Value.ref q) ∧ Fld Z h a "com/example/inchworm/inchworm/query/NodeTest" "namespace" "Ljava/lang/String;" r1 ∧ Fld Z h a "com/example/inchworm/inchworm/query/NodeTest" "name" "Ljava/lang/String;" r2
theorem own_rmTA_ef (m : MethodId) (a : Addr) (q : Addr) (r1 : Value) (r2 : Value) (hr1 : r1.isRef = true) (hr2 : r2.isRef = true)  : entryFrame m #[(Value.ref a), (Value.ref q), r1, r2] 4 = mkF m 0 #[.val (Value.ref a), .val (Value.ref q), .val r1, .val r2] [] := by rcases ref_cases hr1 with rfl | ⟨z, rfl⟩ <;> rcases ref_cases hr2 with rfl | ⟨z, rfl⟩ <;> first | (simp [entryFrame, mkF, argsToLocals, Value.category]; done) | rfl
set_option maxRecDepth 65536 in
set_option maxHeartbeats 40000000 in
theorem own_rmTA (l : Launch) (Z : State) (a0 : Array Value) (hw : ∀ d ∈ tables_1, d.before a0 Z = true) (ws : List Jvm.Cond) (a : Addr) (q : Addr) (r1 : Value) (r2 : Value)  (h0 : Heap) (n0 : Nat) (O0 : Old Z n0 h0)  (hr1 : r1.isRef = true) (hr2 : r2.isRef = true)(E_a : Exa Z h0 a "com/example/inchworm/inchworm/query/NodeTest") (F_a_kind : Fld Z h0 a "com/example/inchworm/inchworm/query/NodeTest" "kind" "Lcom/example/inchworm/inchworm/label/NodeKind;" Value.null) (F_a_namespace : Fld Z h0 a "com/example/inchworm/inchworm/query/NodeTest" "namespace" "Ljava/lang/String;" Value.null) (F_a_name : Fld Z h0 a "com/example/inchworm/inchworm/query/NodeTest" "name" "Ljava/lang/String;" Value.null) (g_a : n0 ≤ a)  :
    MetFree l (⟨"com/example/inchworm/inchworm/query/NodeTest", "<init>", "(Lcom/example/inchworm/inchworm/label/NodeKind;Ljava/lang/String;Ljava/lang/String;)V"⟩ : MethodName) (head1 (Jvm.Cond.code (⟨"com/example/inchworm/inchworm/query/NodeTest", "<init>", "(Lcom/example/inchworm/inchworm/label/NodeKind;Ljava/lang/String;Ljava/lang/String;)V"⟩ : MethodName) prog_56_method_1_code 4 none :: ws) ({ frames := 2, cells := 0, slots := 0, locals := 24 } : Room)) (fun aa_ U => aa_ = #[(Value.ref a), (Value.ref q), r1, r2] ∧ Z.Warmed39 U.vm ∧ U.heap = h0) (fun _ _ _ _ _ => True) (fun _ UU_ oo_ UX_ => ∃ vv_ LL_, oo_ = .returned vv_ ∧ (own_rmTA_Q Z a q r1 r2 h0 n0) vv_ UX_.heap LL_ ∧ FrameEnd UU_ oo_ UX_ LL_ ({ frames := 2, cells := 0, slots := 0, locals := 24 } : Room).cells ({ frames := 2, cells := 0, slots := 0, locals := 24 } : Room).slots) := by
  refine MetFree.of_bodySF (plainFor_of_name own_pn2) hisR ?_
  intro p e s m args below meth c s₁ Bd hml0 hP hK
  obtain ⟨rfl, hZ, hh⟩ := hP
  have hx := Bd.exec
  have hby := Bd.bytes
  have hml : c.maxLocals = 4 := hml0
  have hown : s.vm.findClass "com/example/inchworm/inchworm/query/NodeTest" = some m.cls := findClass_of_methodNamed Bd.named
  have hnm := (name_of_methodNamed Bd.named Bd.method).1
  have hlk : meth.locks = false := BodyLoose.notSynchronized Bd
  have X0 : Stand p l e ({ frames := 2, cells := 0, slots := 0, locals := 24 } : Room) s m #[(Value.ref a), (Value.ref q), r1, r2] below meth c s₁ [] 0 0 := Stand.of_body Bd
  have e0 : s₁.heap = h0 := by rw [← hh, Bd.state]; rfl
  have N0 := Fr.nil n0
  show own_G p e below s (own_rmTA_Q Z a q r1 r2 h0 n0) ({ frames := 2, cells := 0, slots := 0, locals := 24 } : Room).cells ({ frames := 2, cells := 0, slots := 0, locals := 24 } : Room).slots (s₁.setTop (entryFrame m #[(Value.ref a), (Value.ref q), r1, r2] 4))
  refine own_cast (own_rmTA_ef m a q r1 r2 hr1 hr2 ) ?_
  show own_G p e below s _ _ _ (s₁.setTop (mkF m 0 #[.val (Value.ref a), .val (Value.ref q), .val r1, .val r2] []))
  refine own_aloadN X0 hx hby own_d9_0 rfl rfl ?_
  show own_G p e below s _ _ _ (s₁.setTop (mkF m 1 #[.val (Value.ref a), .val (Value.ref q), .val r1, .val r2] [(Value.ref a)]))
  obtain ⟨_, _, ⟨T1, L1, k1, n1⟩, -, X1, ⟨Lc1, hQ1, l1, y1, z1⟩, st1⟩ := X0.specialBack hx (y := (⟨"java/lang/Record", "<init>", "()V"⟩ : MethodName)) rfl hown (mvT hZ (own_w47 hw)) (mvT hZ (own_w48 hw)) (mvT hZ (own_w51 hw)) (by decide) (backOf (W := 0) (own_rm10 l Z a0 hw [] a  h0 n0 O0  ) hZ (own_w51 hw) (own_w50 hw) (by decide) (by decide)) (g := (mkF m 1 #[.val (Value.ref a), .val (Value.ref q), .val r1, .val r2] [(Value.ref a)])) rfl (by rw [hml]; rfl) (Steps.refl _) (a := a) (argsL := []) (rest := []) (lenOf own_pd0 rfl) rfl (by show 2 * 0 + _ ≤ _; exact Nat.le_of_eq rfl) (hb hby own_d9_1) (fun _ _ => ⟨rfl, e0, (by decide : (0 : Nat) + 0 ≤ _), (by decide : (0 : Nat) + 0 ≤ _)⟩)
  dsimp only [Pt.U, Pt.locs, Pt.cells, Pt.slots] at X1 l1 y1 z1 st1 hQ1
  subst l1 y1 z1
  obtain ⟨rfl, e1, Nq1⟩ := hQ1
  have N1 := Fr.app N0 Nq1
  refine own_tr st1 ?_
  show own_G p e below s _ _ _ (T1.setTop (mkF m 4 #[.val (Value.ref a), .val (Value.ref q), .val r1, .val r2] []))
  refine own_aloadN X1 hx hby own_d9_4 rfl rfl ?_
  show own_G p e below s _ _ _ (T1.setTop (mkF m 5 #[.val (Value.ref a), .val (Value.ref q), .val r1, .val r2] [(Value.ref a)]))
  refine own_aloadN X1 hx hby own_d9_5 rfl rfl ?_
  show own_G p e below s _ _ _ (T1.setTop (mkF m 6 #[.val (Value.ref a), .val (Value.ref q), .val r1, .val r2] [(Value.ref q), (Value.ref a)]))
  obtain ⟨T2, h2, X2, e2, W2, st2⟩ := putF X1 hx hZ hown (host := "") (Or.inl (own_w53 hw)) Via.refl e1 F_a_kind E_a (Or.inr ⟨(own_w54 hw), rfl, hnm⟩) (own_w2 hw) (ty := (.object "com/example/inchworm/inchworm/label/NodeKind")) (by decide) rfl rfl (g := (mkF m 6 #[.val (Value.ref a), .val (Value.ref q), .val r1, .val r2] [(Value.ref q), (Value.ref a)])) rfl rfl (hb hby own_d9_6)
  have F3_a_namespace := Fld.other W2 F_a_namespace (Or.inr (slot_ne (C := "com/example/inchworm/inchworm/query/NodeTest") (Or.inr (own_w56 hw)) (Or.inr (own_w54 hw)) (by decide) (t := (.object "java/lang/String")) (t' := (.object "com/example/inchworm/inchworm/label/NodeKind")) (by decide) (by decide)))
  have F3_a_name := Fld.other W2 F_a_name (Or.inr (slot_ne (C := "com/example/inchworm/inchworm/query/NodeTest") (Or.inr (own_w58 hw)) (Or.inr (own_w54 hw)) (by decide) (t := (.object "java/lang/String")) (t' := (.object "com/example/inchworm/inchworm/label/NodeKind")) (by decide) (by decide)))
  have E3_a := Exa.wr W2 E_a
  have O3 := Old.wr O0 W2 g_a
  have F2w := Fld.same W2 F_a_kind
  have K2 := Keep.wr (Keep.refl h0 [a]) W2 (Or.inl (List.mem_of_getElem? (i := 0) rfl))
  have N2 := Fr.snoc X2 N1 g_a
  refine own_st st2 ?_
  show own_G p e below s _ _ _ (T2.setTop (mkF m 9 #[.val (Value.ref a), .val (Value.ref q), .val r1, .val r2] []))
  refine own_aloadN X2 hx hby own_d9_9 rfl rfl ?_
  show own_G p e below s _ _ _ (T2.setTop (mkF m 10 #[.val (Value.ref a), .val (Value.ref q), .val r1, .val r2] [(Value.ref a)]))
  refine own_aloadN X2 hx hby own_d9_10 rfl hr1 ?_
  show own_G p e below s _ _ _ (T2.setTop (mkF m 11 #[.val (Value.ref a), .val (Value.ref q), .val r1, .val r2] [r1, (Value.ref a)]))
  obtain ⟨T4, h4, X4, e4, W4, st4⟩ := putF X2 hx hZ hown (host := "") (Or.inl (own_w55 hw)) Via.refl e2 F3_a_namespace E3_a (Or.inr ⟨(own_w56 hw), rfl, hnm⟩) (own_w2 hw) (ty := (.object "java/lang/String")) (by decide) (own_narR hr1) (own_fitR hr1) (g := (mkF m 11 #[.val (Value.ref a), .val (Value.ref q), .val r1, .val r2] [r1, (Value.ref a)])) rfl rfl (hb hby own_d9_11)
  have F5_a_kind := Fld.other W4 F2w (Or.inr (slot_ne (C := "com/example/inchworm/inchworm/query/NodeTest") (Or.inr (own_w54 hw)) (Or.inr (own_w56 hw)) (by decide) (t := (.object "com/example/inchworm/inchworm/label/NodeKind")) (t' := (.object "java/lang/String")) (by decide) (by decide)))
  have F5_a_name := Fld.other W4 F3_a_name (Or.inr (slot_ne (C := "com/example/inchworm/inchworm/query/NodeTest") (Or.inr (own_w58 hw)) (Or.inr (own_w56 hw)) (by decide) (t := (.object "java/lang/String")) (t' := (.object "java/lang/String")) (by decide) (by decide)))
  have E5_a := Exa.wr W4 E3_a
  have O5 := Old.wr O3 W4 g_a
  have F4w := Fld.same W4 F3_a_namespace
  have K4 := Keep.wr K2 W4 (Or.inl (List.mem_of_getElem? (i := 0) rfl))
  have N4 := Fr.snoc X4 N2 g_a
  refine own_st st4 ?_
  show own_G p e below s _ _ _ (T4.setTop (mkF m 14 #[.val (Value.ref a), .val (Value.ref q), .val r1, .val r2] []))
  refine own_aloadN X4 hx hby own_d9_14 rfl rfl ?_
  show own_G p e below s _ _ _ (T4.setTop (mkF m 15 #[.val (Value.ref a), .val (Value.ref q), .val r1, .val r2] [(Value.ref a)]))
  refine own_aloadN X4 hx hby own_d9_15 rfl hr2 ?_
  show own_G p e below s _ _ _ (T4.setTop (mkF m 16 #[.val (Value.ref a), .val (Value.ref q), .val r1, .val r2] [r2, (Value.ref a)]))
  obtain ⟨T6, h6, X6, e6, W6, st6⟩ := putF X4 hx hZ hown (host := "") (Or.inl (own_w57 hw)) Via.refl e4 F5_a_name E5_a (Or.inr ⟨(own_w58 hw), rfl, hnm⟩) (own_w2 hw) (ty := (.object "java/lang/String")) (by decide) (own_narR hr2) (own_fitR hr2) (g := (mkF m 16 #[.val (Value.ref a), .val (Value.ref q), .val r1, .val r2] [r2, (Value.ref a)])) rfl rfl (hb hby own_d9_16)
  have F7_a_kind := Fld.other W6 F5_a_kind (Or.inr (slot_ne (C := "com/example/inchworm/inchworm/query/NodeTest") (Or.inr (own_w54 hw)) (Or.inr (own_w58 hw)) (by decide) (t := (.object "com/example/inchworm/inchworm/label/NodeKind")) (t' := (.object "java/lang/String")) (by decide) (by decide)))
  have F7_a_namespace := Fld.other W6 F4w (Or.inr (slot_ne (C := "com/example/inchworm/inchworm/query/NodeTest") (Or.inr (own_w56 hw)) (Or.inr (own_w58 hw)) (by decide) (t := (.object "java/lang/String")) (t' := (.object "java/lang/String")) (by decide) (by decide)))
  have E7_a := Exa.wr W6 E5_a
  have O7 := Old.wr O5 W6 g_a
  have F6w := Fld.same W6 F5_a_name
  have K6 := Keep.wr K4 W6 (Or.inl (List.mem_of_getElem? (i := 0) rfl))
  have N6 := Fr.snoc X6 N4 g_a
  refine own_st st6 ?_
  show own_G p e below s _ _ _ (T6.setTop (mkF m 19 #[.val (Value.ref a), .val (Value.ref q), .val r1, .val r2] []))
  refine own_ret0 X6 hx hby hlk Bd.returns own_d9_19 (by decide) (by decide) ?_
  show own_rmTA_Q Z a q r1 r2 h0 n0 none T6.heap _
  rw [e6]
  exact ⟨rfl, N6, K6, E7_a, F7_a_kind, F7_a_namespace, F6w⟩
def own_rmTN_Q (Z : State) (a : Addr) (r1 : Value) (r2 : Value)  (h0 : Heap) (n0 : Nat) : Option Value → Heap → List Loc → Prop := fun v h L => v = none ∧ Fr n0 L ∧ Keep h0 h [a] ∧ Exa Z h a "com/example/inchworm/inchworm/query/NodeTest" ∧ Fld Z h a "com/example/inchworm/inchworm/query/NodeTest" "kind" "Lcom/example/inchworm/inchworm/label/NodeKind;" Value.null ∧ Fld Z h a "com/example/inchworm/inchworm/query/NodeTest" "namespace" "Ljava/lang/String;" r1 ∧ Fld Z h a "com/example/inchworm/inchworm/query/NodeTest" "name" "Ljava/lang/String;" r2
theorem own_rmTN_ef (m : MethodId) (a : Addr) (r1 : Value) (r2 : Value) (hr1 : r1.isRef = true) (hr2 : r2.isRef = true)  : entryFrame m #[(Value.ref a), Value.null, r1, r2] 4 = mkF m 0 #[.val (Value.ref a), .val Value.null, .val r1, .val r2] [] := by rcases ref_cases hr1 with rfl | ⟨z, rfl⟩ <;> rcases ref_cases hr2 with rfl | ⟨z, rfl⟩ <;> first | (simp [entryFrame, mkF, argsToLocals, Value.category]; done) | rfl
set_option maxRecDepth 65536 in
set_option maxHeartbeats 40000000 in
theorem own_rmTN (l : Launch) (Z : State) (a0 : Array Value) (hw : ∀ d ∈ tables_1, d.before a0 Z = true) (ws : List Jvm.Cond) (a : Addr) (r1 : Value) (r2 : Value)  (h0 : Heap) (n0 : Nat) (O0 : Old Z n0 h0)  (hr1 : r1.isRef = true) (hr2 : r2.isRef = true)(E_a : Exa Z h0 a "com/example/inchworm/inchworm/query/NodeTest") (F_a_kind : Fld Z h0 a "com/example/inchworm/inchworm/query/NodeTest" "kind" "Lcom/example/inchworm/inchworm/label/NodeKind;" Value.null) (F_a_namespace : Fld Z h0 a "com/example/inchworm/inchworm/query/NodeTest" "namespace" "Ljava/lang/String;" Value.null) (F_a_name : Fld Z h0 a "com/example/inchworm/inchworm/query/NodeTest" "name" "Ljava/lang/String;" Value.null) (g_a : n0 ≤ a)  :
    MetFree l (⟨"com/example/inchworm/inchworm/query/NodeTest", "<init>", "(Lcom/example/inchworm/inchworm/label/NodeKind;Ljava/lang/String;Ljava/lang/String;)V"⟩ : MethodName) (head1 (Jvm.Cond.code (⟨"com/example/inchworm/inchworm/query/NodeTest", "<init>", "(Lcom/example/inchworm/inchworm/label/NodeKind;Ljava/lang/String;Ljava/lang/String;)V"⟩ : MethodName) prog_56_method_1_code 4 none :: ws) ({ frames := 2, cells := 0, slots := 0, locals := 24 } : Room)) (fun aa_ U => aa_ = #[(Value.ref a), Value.null, r1, r2] ∧ Z.Warmed39 U.vm ∧ U.heap = h0) (fun _ _ _ _ _ => True) (fun _ UU_ oo_ UX_ => ∃ vv_ LL_, oo_ = .returned vv_ ∧ (own_rmTN_Q Z a r1 r2 h0 n0) vv_ UX_.heap LL_ ∧ FrameEnd UU_ oo_ UX_ LL_ ({ frames := 2, cells := 0, slots := 0, locals := 24 } : Room).cells ({ frames := 2, cells := 0, slots := 0, locals := 24 } : Room).slots) := by
  refine MetFree.of_bodySF (plainFor_of_name own_pn2) hisR ?_
  intro p e s m args below meth c s₁ Bd hml0 hP hK
  obtain ⟨rfl, hZ, hh⟩ := hP
  have hx := Bd.exec
  have hby := Bd.bytes
  have hml : c.maxLocals = 4 := hml0
  have hown : s.vm.findClass "com/example/inchworm/inchworm/query/NodeTest" = some m.cls := findClass_of_methodNamed Bd.named
  have hnm := (name_of_methodNamed Bd.named Bd.method).1
  have hlk : meth.locks = false := BodyLoose.notSynchronized Bd
  have X0 : Stand p l e ({ frames := 2, cells := 0, slots := 0, locals := 24 } : Room) s m #[(Value.ref a), Value.null, r1, r2] below meth c s₁ [] 0 0 := Stand.of_body Bd
  have e0 : s₁.heap = h0 := by rw [← hh, Bd.state]; rfl
  have N0 := Fr.nil n0
  show own_G p e below s (own_rmTN_Q Z a r1 r2 h0 n0) ({ frames := 2, cells := 0, slots := 0, locals := 24 } : Room).cells ({ frames := 2, cells := 0, slots := 0, locals := 24 } : Room).slots (s₁.setTop (entryFrame m #[(Value.ref a), Value.null, r1, r2] 4))
  refine own_cast (own_rmTN_ef m a r1 r2 hr1 hr2 ) ?_
  show own_G p e below s _ _ _ (s₁.setTop (mkF m 0 #[.val (Value.ref a), .val Value.null, .val r1, .val r2] []))
  refine own_aloadN X0 hx hby own_d9_0 rfl rfl ?_
  show own_G p e below s _ _ _ (s₁.setTop (mkF m 1 #[.val (Value.ref a), .val Value.null, .val r1, .val r2] [(Value.ref a)]))
  obtain ⟨_, _, ⟨T1, L1, k1, n1⟩, -, X1, ⟨Lc1, hQ1, l1, y1, z1⟩, st1⟩ := X0.specialBack hx (y := (⟨"java/lang/Record", "<init>", "()V"⟩ : MethodName)) rfl hown (mvT hZ (own_w47 hw)) (mvT hZ (own_w48 hw)) (mvT hZ (own_w51 hw)) (by decide) (backOf (W := 0) (own_rm10 l Z a0 hw [] a  h0 n0 O0  ) hZ (own_w51 hw) (own_w50 hw) (by decide) (by decide)) (g := (mkF m 1 #[.val (Value.ref a), .val Value.null, .val r1, .val r2] [(Value.ref a)])) rfl (by rw [hml]; rfl) (Steps.refl _) (a := a) (argsL := []) (rest := []) (lenOf own_pd0 rfl) rfl (by show 2 * 0 + _ ≤ _; exact Nat.le_of_eq rfl) (hb hby own_d9_1) (fun _ _ => ⟨rfl, e0, (by decide : (0 : Nat) + 0 ≤ _), (by decide : (0 : Nat) + 0 ≤ _)⟩)
  dsimp only [Pt.U, Pt.locs, Pt.cells, Pt.slots] at X1 l1 y1 z1 st1 hQ1
  subst l1 y1 z1
  obtain ⟨rfl, e1, Nq1⟩ := hQ1
  have N1 := Fr.app N0 Nq1
  refine own_tr st1 ?_
  show own_G p e below s _ _ _ (T1.setTop (mkF m 4 #[.val (Value.ref a), .val Value.null, .val r1, .val r2] []))
  refine own_aloadN X1 hx hby own_d9_4 rfl rfl ?_
  show own_G p e below s _ _ _ (T1.setTop (mkF m 5 #[.val (Value.ref a), .val Value.null, .val r1, .val r2] [(Value.ref a)]))
  refine own_aloadN X1 hx hby own_d9_5 rfl rfl ?_
  show own_G p e below s _ _ _ (T1.setTop (mkF m 6 #[.val (Value.ref a), .val Value.null, .val r1, .val r2] [Value.null, (Value.ref a)]))
  obtain ⟨T2, h2, X2, e2, W2, st2⟩ := putF X1 hx hZ hown (host := "") (Or.inl (own_w53 hw)) Via.refl e1 F_a_kind E_a (Or.inr ⟨(own_w54 hw), rfl, hnm⟩) (own_w2 hw) (ty := (.object "com/example/inchworm/inchworm/label/NodeKind")) (by decide) rfl rfl (g := (mkF m 6 #[.val (Value.ref a), .val Value.null, .val r1, .val r2] [Value.null, (Value.ref a)])) rfl rfl (hb hby own_d9_6)
  have F3_a_namespace := Fld.other W2 F_a_namespace (Or.inr (slot_ne (C := "com/example/inchworm/inchworm/query/NodeTest") (Or.inr (own_w56 hw)) (Or.inr (own_w54 hw)) (by decide) (t := (.object "java/lang/String")) (t' := (.object "com/example/inchworm/inchworm/label/NodeKind")) (by decide) (by decide)))
  have F3_a_name := Fld.other W2 F_a_name (Or.inr (slot_ne (C := "com/example/inchworm/inchworm/query/NodeTest") (Or.inr (own_w58 hw)) (Or.inr (own_w54 hw)) (by decide) (t := (.object "java/lang/String")) (t' := (.object "com/example/inchworm/inchworm/label/NodeKind")) (by decide) (by decide)))
  have E3_a := Exa.wr W2 E_a
  have O3 := Old.wr O0 W2 g_a
  have F2w := Fld.same W2 F_a_kind
  have K2 := Keep.wr (Keep.refl h0 [a]) W2 (Or.inl (List.mem_of_getElem? (i := 0) rfl))
  have N2 := Fr.snoc X2 N1 g_a
  refine own_st st2 ?_
  show own_G p e below s _ _ _ (T2.setTop (mkF m 9 #[.val (Value.ref a), .val Value.null, .val r1, .val r2] []))
  refine own_aloadN X2 hx hby own_d9_9 rfl rfl ?_
  show own_G p e below s _ _ _ (T2.setTop (mkF m 10 #[.val (Value.ref a), .val Value.null, .val r1, .val r2] [(Value.ref a)]))
  refine own_aloadN X2 hx hby own_d9_10 rfl hr1 ?_
  show own_G p e below s _ _ _ (T2.setTop (mkF m 11 #[.val (Value.ref a), .val Value.null, .val r1, .val r2] [r1, (Value.ref a)]))
  obtain ⟨T4, h4, X4, e4, W4, st4⟩ := putF X2 hx hZ hown (host := "") (Or.inl (own_w55 hw)) Via.refl e2 F3_a_namespace E3_a (Or.inr ⟨(own_w56 hw), rfl, hnm⟩) (own_w2 hw) (ty := (.object "java/lang/String")) (by decide) (own_narR hr1) (own_fitR hr1) (g := (mkF m 11 #[.val (Value.ref a), .val Value.null, .val r1, .val r2] [r1, (Value.ref a)])) rfl rfl (hb hby own_d9_11)
  have F5_a_kind := Fld.other W4 F2w (Or.inr (slot_ne (C := "com/example/inchworm/inchworm/query/NodeTest") (Or.inr (own_w54 hw)) (Or.inr (own_w56 hw)) (by decide) (t := (.object "com/example/inchworm/inchworm/label/NodeKind")) (t' := (.object "java/lang/String")) (by decide) (by decide)))
  have F5_a_name := Fld.other W4 F3_a_name (Or.inr (slot_ne (C := "com/example/inchworm/inchworm/query/NodeTest") (Or.inr (own_w58 hw)) (Or.inr (own_w56 hw)) (by decide) (t := (.object "java/lang/String")) (t' := (.object "java/lang/String")) (by decide) (by decide)))
  have E5_a := Exa.wr W4 E3_a
  have O5 := Old.wr O3 W4 g_a
  have F4w := Fld.same W4 F3_a_namespace
  have K4 := Keep.wr K2 W4 (Or.inl (List.mem_of_getElem? (i := 0) rfl))
  have N4 := Fr.snoc X4 N2 g_a
  refine own_st st4 ?_
  show own_G p e below s _ _ _ (T4.setTop (mkF m 14 #[.val (Value.ref a), .val Value.null, .val r1, .val r2] []))
  refine own_aloadN X4 hx hby own_d9_14 rfl rfl ?_
  show own_G p e below s _ _ _ (T4.setTop (mkF m 15 #[.val (Value.ref a), .val Value.null, .val r1, .val r2] [(Value.ref a)]))
  refine own_aloadN X4 hx hby own_d9_15 rfl hr2 ?_
  show own_G p e below s _ _ _ (T4.setTop (mkF m 16 #[.val (Value.ref a), .val Value.null, .val r1, .val r2] [r2, (Value.ref a)]))
  obtain ⟨T6, h6, X6, e6, W6, st6⟩ := putF X4 hx hZ hown (host := "") (Or.inl (own_w57 hw)) Via.refl e4 F5_a_name E5_a (Or.inr ⟨(own_w58 hw), rfl, hnm⟩) (own_w2 hw) (ty := (.object "java/lang/String")) (by decide) (own_narR hr2) (own_fitR hr2) (g := (mkF m 16 #[.val (Value.ref a), .val Value.null, .val r1, .val r2] [r2, (Value.ref a)])) rfl rfl (hb hby own_d9_16)
  have F7_a_kind := Fld.other W6 F5_a_kind (Or.inr (slot_ne (C := "com/example/inchworm/inchworm/query/NodeTest") (Or.inr (own_w54 hw)) (Or.inr (own_w58 hw)) (by decide) (t := (.object "com/example/inchworm/inchworm/label/NodeKind")) (t' := (.object "java/lang/String")) (by decide) (by decide)))
  have F7_a_namespace := Fld.other W6 F4w (Or.inr (slot_ne (C := "com/example/inchworm/inchworm/query/NodeTest") (Or.inr (own_w56 hw)) (Or.inr (own_w58 hw)) (by decide) (t := (.object "java/lang/String")) (t' := (.object "java/lang/String")) (by decide) (by decide)))
  have E7_a := Exa.wr W6 E5_a
  have O7 := Old.wr O5 W6 g_a
  have F6w := Fld.same W6 F5_a_name
  have K6 := Keep.wr K4 W6 (Or.inl (List.mem_of_getElem? (i := 0) rfl))
  have N6 := Fr.snoc X6 N4 g_a
  refine own_st st6 ?_
  show own_G p e below s _ _ _ (T6.setTop (mkF m 19 #[.val (Value.ref a), .val Value.null, .val r1, .val r2] []))
  refine own_ret0 X6 hx hby hlk Bd.returns own_d9_19 (by decide) (by decide) ?_
  show own_rmTN_Q Z a r1 r2 h0 n0 none T6.heap _
  rw [e6]
  exact ⟨rfl, N6, K6, E7_a, F7_a_kind, F7_a_namespace, F6w⟩
def own_rmMA_Q (Z : State) (a : Addr) (r1 : Value) (q : Addr) (h0 : Heap) (n0 : Nat) : Option Value → Heap → List Loc → Prop := fun v h L => v = some (Value.int (own_mm (.ref q) r1)) ∧ h = h0 ∧ Fr n0 L
theorem own_rmMA_ef (m : MethodId) (a : Addr) (r1 : Value) (hr1 : r1.isRef = true)  : entryFrame m #[(Value.ref a), r1] 2 = mkF m 0 #[.val (Value.ref a), .val r1] [] := by rcases ref_cases hr1 with rfl | ⟨z, rfl⟩ <;> first | (simp [entryFrame, mkF, argsToLocals, Value.category]; done) | rfl
set_option maxRecDepth 65536 in
set_option maxHeartbeats 40000000 in
theorem own_rmMA (l : Launch) (Z : State) (a0 : Array Value) (hw : ∀ d ∈ tables_1, d.before a0 Z = true) (ws : List Jvm.Cond) (a : Addr) (r1 : Value) (q : Addr) (h0 : Heap) (n0 : Nat) (O0 : Old Z n0 h0)  (hr1 : r1.isRef = true)(F_a_kind : Fld Z h0 a "com/example/inchworm/inchworm/query/NodeTest" "kind" "Lcom/example/inchworm/inchworm/label/NodeKind;" (Value.ref q))  :
    MetFree l (⟨"com/example/inchworm/inchworm/query/NodeTest", "mayMatch", "(Lcom/example/inchworm/inchworm/label/NodeKind;)Z"⟩ : MethodName) (head1 (Jvm.Cond.code (⟨"com/example/inchworm/inchworm/query/NodeTest", "mayMatch", "(Lcom/example/inchworm/inchworm/label/NodeKind;)Z"⟩ : MethodName) prog_56_method_4_code 2 (some .boolean) :: ws) ({ frames := 0, cells := 0, slots := 0, locals := 0 } : Room)) (fun aa_ U => aa_ = #[(Value.ref a), r1] ∧ Z.Warmed39 U.vm ∧ U.heap = h0) (fun _ _ _ _ _ => True) (fun _ UU_ oo_ UX_ => ∃ vv_ LL_, oo_ = .returned vv_ ∧ (own_rmMA_Q Z a r1 q h0 n0) vv_ UX_.heap LL_ ∧ FrameEnd UU_ oo_ UX_ LL_ ({ frames := 0, cells := 0, slots := 0, locals := 0 } : Room).cells ({ frames := 0, cells := 0, slots := 0, locals := 0 } : Room).slots) := by
  refine MetFree.of_bodySF (plainFor_of_name own_pn2) hisR ?_
  intro p e s m args below meth c s₁ Bd hml0 hP hK
  obtain ⟨rfl, hZ, hh⟩ := hP
  have hx := Bd.exec
  have hby := Bd.bytes
  have hml : c.maxLocals = 2 := hml0
  have hown : s.vm.findClass "com/example/inchworm/inchworm/query/NodeTest" = some m.cls := findClass_of_methodNamed Bd.named
  have hnm := (name_of_methodNamed Bd.named Bd.method).1
  have hlk : meth.locks = false := BodyLoose.notSynchronized Bd
  have X0 : Stand p l e ({ frames := 0, cells := 0, slots := 0, locals := 0 } : Room) s m #[(Value.ref a), r1] below meth c s₁ [] 0 0 := Stand.of_body Bd
  have e0 : s₁.heap = h0 := by rw [← hh, Bd.state]; rfl
  have N0 := Fr.nil n0
  show own_G p e below s (own_rmMA_Q Z a r1 q h0 n0) ({ frames := 0, cells := 0, slots := 0, locals := 0 } : Room).cells ({ frames := 0, cells := 0, slots := 0, locals := 0 } : Room).slots (s₁.setTop (entryFrame m #[(Value.ref a), r1] 2))
  refine own_cast (own_rmMA_ef m a r1 hr1 ) ?_
  show own_G p e below s _ _ _ (s₁.setTop (mkF m 0 #[.val (Value.ref a), .val r1] []))
  refine own_aloadN X0 hx hby own_d11_0 rfl rfl ?_
  show own_G p e below s _ _ _ (s₁.setTop (mkF m 1 #[.val (Value.ref a), .val r1] [(Value.ref a)]))
  obtain ⟨T1, X1, e1, st1⟩ := getF X0 hx hZ hown (host := "") (Or.inl (own_w53 hw)) Via.refl e0 F_a_kind (g := (mkF m 1 #[.val (Value.ref a), .val r1] [(Value.ref a)])) rfl rfl (hb hby own_d11_1)
  refine own_st st1 ?_
  show own_G p e below s _ _ _ (T1.setTop (mkF m 4 #[.val (Value.ref a), .val r1] [(Value.ref q)]))
  refine own_ifnullN X1 hx hby own_d11_4 ?_
  show own_G p e below s _ _ _ (T1.setTop (mkF m 7 #[.val (Value.ref a), .val r1] []))
  refine own_aloadN X1 hx hby own_d11_7 rfl rfl ?_
  show own_G p e below s _ _ _ (T1.setTop (mkF m 8 #[.val (Value.ref a), .val r1] [(Value.ref a)]))
  obtain ⟨T2, X2, e2, st2⟩ := getF X1 hx hZ hown (host := "") (Or.inl (own_w53 hw)) Via.refl e1 F_a_kind (g := (mkF m 8 #[.val (Value.ref a), .val r1] [(Value.ref a)])) rfl rfl (hb hby own_d11_8)
  refine own_st st2 ?_
  show own_G p e below s _ _ _ (T2.setTop (mkF m 11 #[.val (Value.ref a), .val r1] [(Value.ref q)]))
  refine own_aloadN X2 hx hby own_d11_11 rfl hr1 ?_
  show own_G p e below s _ _ _ (T2.setTop (mkF m 12 #[.val (Value.ref a), .val r1] [r1, (Value.ref q)]))
  refine own_acmp_ne X2 hx hby rfl hr1 own_d11_12 (pc' := 19) (by decide) (by decide) (fun hb3 => ?_) (fun hb3 => ?_)
  · show own_G p e below s _ _ _ (T2.setTop (mkF m 19 #[.val (Value.ref a), .val r1] []))
    refine own_iconst X2 hx hby own_d11_19 ?_
    show own_G p e below s _ _ _ (T2.setTop (mkF m 20 #[.val (Value.ref a), .val r1] [(Value.int (0 : Int32))]))
    refine own_retN X2 hx hby hlk (t := .boolean) Bd.returns (by simp) own_d11_20 (by decide) (by decide) ?_
    refine ⟨?_, e2, N0⟩
    show some (Value.int (0 : Int32)) = _
    simp only [own_mm, if_neg hb3]
  · show own_G p e below s _ _ _ (T2.setTop (mkF m 15 #[.val (Value.ref a), .val r1] []))
    refine own_iconst X2 hx hby own_d11_15 ?_
    show own_G p e below s _ _ _ (T2.setTop (mkF m 16 #[.val (Value.ref a), .val r1] [(Value.int (1 : Int32))]))
    refine own_goto X2 hx hby own_d11_16 (pc' := 20) (by decide) (by decide) ?_
    show own_G p e below s _ _ _ (T2.setTop (mkF m 20 #[.val (Value.ref a), .val r1] [(Value.int (1 : Int32))]))
    refine own_retN X2 hx hby hlk (t := .boolean) Bd.returns (by simp) own_d11_20 (by decide) (by decide) ?_
    refine ⟨?_, e2, N0⟩
    show some (Value.int (1 : Int32)) = _
    simp only [own_mm, if_pos hb3]
def own_rmMN_Q (Z : State) (a : Addr) (r1 : Value)  (h0 : Heap) (n0 : Nat) : Option Value → Heap → List Loc → Prop := fun v h L => v = some (Value.int (1 : Int32)) ∧ h = h0 ∧ Fr n0 L
theorem own_rmMN_ef (m : MethodId) (a : Addr) (r1 : Value) (hr1 : r1.isRef = true)  : entryFrame m #[(Value.ref a), r1] 2 = mkF m 0 #[.val (Value.ref a), .val r1] [] := by rcases ref_cases hr1 with rfl | ⟨z, rfl⟩ <;> first | (simp [entryFrame, mkF, argsToLocals, Value.category]; done) | rfl
set_option maxRecDepth 65536 in
set_option maxHeartbeats 40000000 in
theorem own_rmMN (l : Launch) (Z : State) (a0 : Array Value) (hw : ∀ d ∈ tables_1, d.before a0 Z = true) (ws : List Jvm.Cond) (a : Addr) (r1 : Value)  (h0 : Heap) (n0 : Nat) (O0 : Old Z n0 h0)  (hr1 : r1.isRef = true)(F_a_kind : Fld Z h0 a "com/example/inchworm/inchworm/query/NodeTest" "kind" "Lcom/example/inchworm/inchworm/label/NodeKind;" Value.null)  :
    MetFree l (⟨"com/example/inchworm/inchworm/query/NodeTest", "mayMatch", "(Lcom/example/inchworm/inchworm/label/NodeKind;)Z"⟩ : MethodName) (head1 (Jvm.Cond.code (⟨"com/example/inchworm/inchworm/query/NodeTest", "mayMatch", "(Lcom/example/inchworm/inchworm/label/NodeKind;)Z"⟩ : MethodName) prog_56_method_4_code 2 (some .boolean) :: ws) ({ frames := 0, cells := 0, slots := 0, locals := 0 } : Room)) (fun aa_ U => aa_ = #[(Value.ref a), r1] ∧ Z.Warmed39 U.vm ∧ U.heap = h0) (fun _ _ _ _ _ => True) (fun _ UU_ oo_ UX_ => ∃ vv_ LL_, oo_ = .returned vv_ ∧ (own_rmMN_Q Z a r1 h0 n0) vv_ UX_.heap LL_ ∧ FrameEnd UU_ oo_ UX_ LL_ ({ frames := 0, cells := 0, slots := 0, locals := 0 } : Room).cells ({ frames := 0, cells := 0, slots := 0, locals := 0 } : Room).slots) := by
  refine MetFree.of_bodySF (plainFor_of_name own_pn2) hisR ?_
  intro p e s m args below meth c s₁ Bd hml0 hP hK
  obtain ⟨rfl, hZ, hh⟩ := hP
  have hx := Bd.exec
  have hby := Bd.bytes
  have hml : c.maxLocals = 2 := hml0
  have hown : s.vm.findClass "com/example/inchworm/inchworm/query/NodeTest" = some m.cls := findClass_of_methodNamed Bd.named
  have hnm := (name_of_methodNamed Bd.named Bd.method).1
  have hlk : meth.locks = false := BodyLoose.notSynchronized Bd
  have X0 : Stand p l e ({ frames := 0, cells := 0, slots := 0, locals := 0 } : Room) s m #[(Value.ref a), r1] below meth c s₁ [] 0 0 := Stand.of_body Bd
  have e0 : s₁.heap = h0 := by rw [← hh, Bd.state]; rfl
  have N0 := Fr.nil n0
  show own_G p e below s (own_rmMN_Q Z a r1 h0 n0) ({ frames := 0, cells := 0, slots := 0, locals := 0 } : Room).cells ({ frames := 0, cells := 0, slots := 0, locals := 0 } : Room).slots (s₁.setTop (entryFrame m #[(Value.ref a), r1] 2))
  refine own_cast (own_rmMN_ef m a r1 hr1 ) ?_
  show own_G p e below s _ _ _ (s₁.setTop (mkF m 0 #[.val (Value.ref a), .val r1] []))
  refine own_aloadN X0 hx hby own_d11_0 rfl rfl ?_
  show own_G p e below s _ _ _ (s₁.setTop (mkF m 1 #[.val (Value.ref a), .val r1] [(Value.ref a)]))
  obtain ⟨T1, X1, e1, st1⟩ := getF X0 hx hZ hown (host := "") (Or.inl (own_w53 hw)) Via.refl e0 F_a_kind (g := (mkF m 1 #[.val (Value.ref a), .val r1] [(Value.ref a)])) rfl rfl (hb hby own_d11_1)
  refine own_st st1 ?_
  show own_G p e below s _ _ _ (T1.setTop (mkF m 4 #[.val (Value.ref a), .val r1] [Value.null]))
  refine own_ifnullY X1 hx hby own_d11_4 (pc' := 15) (by decide) (by decide) ?_
  show own_G p e below s _ _ _ (T1.setTop (mkF m 15 #[.val (Value.ref a), .val r1] []))
  refine own_iconst X1 hx hby own_d11_15 ?_
  show own_G p e below s _ _ _ (T1.setTop (mkF m 16 #[.val (Value.ref a), .val r1] [(Value.int (1 : Int32))]))
  refine own_goto X1 hx hby own_d11_16 (pc' := 20) (by decide) (by decide) ?_
  show own_G p e below s _ _ _ (T1.setTop (mkF m 20 #[.val (Value.ref a), .val r1] [(Value.int (1 : Int32))]))
  refine own_retN X1 hx hby hlk (t := .boolean) Bd.returns (by simp) own_d11_20 (by decide) (by decide) ?_
  refine ⟨?_, e1, N0⟩
  show some (Value.int (1 : Int32)) = _
  rfl
def own_rm2_Q (Z : State) (x : Int32) (G1 : Int32) (h0 : Heap) (n0 : Nat) : Option Value → Heap → List Loc → Prop := fun v h L => ∃ r, v = some r ∧ r.isRef = true ∧ Fr n0 L ∧ Keep h0 h []
theorem own_rm2_ef (m : MethodId) (x : Int32)  : entryFrame m #[(Value.int x)] 1 = mkF m 0 #[.val (Value.int x)] [] := by first | (simp [entryFrame, mkF, argsToLocals, Value.category]; done) | rfl
set_option maxRecDepth 65536 in
set_option maxHeartbeats 40000000 in
theorem own_rm2 (l : Launch) (Z : State) (a0 : Array Value) (hw : ∀ d ∈ tables_1, d.before a0 Z = true) (ws : List Jvm.Cond) (x : Int32) (G1 : Int32) (h0 : Heap) (n0 : Nat) (O0 : Old Z n0 h0) (hO2 : Sta Z Z.heap "java/lang/String" "COMPACT_STRINGS" "Z" (.int G1)) (hP3 : ¬ G1 = (0 : Int32)) :
    MetFree l (⟨"com/example/inchworm/inchworm/query/NodeTestMayMatchPinLaw", "drawn", "(I)Ljava/lang/String;"⟩ : MethodName) (head1 (Jvm.Cond.code (⟨"com/example/inchworm/inchworm/query/NodeTestMayMatchPinLaw", "drawn", "(I)Ljava/lang/String;"⟩ : MethodName) method_3_code 1 (some (.object "java/lang/String")) :: ws) ({ frames := 4, cells := 3, slots := 6, locals := 66 } : Room)) (fun aa_ U => aa_ = #[(Value.int x)] ∧ Z.Warmed39 U.vm ∧ U.heap = h0) (fun _ _ _ _ _ => True) (fun _ UU_ oo_ UX_ => ∃ vv_ LL_, oo_ = .returned vv_ ∧ (own_rm2_Q Z x G1 h0 n0) vv_ UX_.heap LL_ ∧ FrameEnd UU_ oo_ UX_ LL_ ({ frames := 4, cells := 3, slots := 6, locals := 66 } : Room).cells ({ frames := 4, cells := 3, slots := 6, locals := 66 } : Room).slots) := by
  refine MetFree.of_bodySF (plainFor_of_name own_pn0) hisR ?_
  intro p e s m args below meth c s₁ Bd hml0 hP hK
  obtain ⟨rfl, hZ, hh⟩ := hP
  have hx := Bd.exec
  have hby := Bd.bytes
  have hml : c.maxLocals = 1 := hml0
  have hown : s.vm.findClass "com/example/inchworm/inchworm/query/NodeTestMayMatchPinLaw" = some m.cls := findClass_of_methodNamed Bd.named
  have hnm := (name_of_methodNamed Bd.named Bd.method).1
  have hlk : meth.locks = false := BodyLoose.notSynchronized Bd
  have X0 : Stand p l e ({ frames := 4, cells := 3, slots := 6, locals := 66 } : Room) s m #[(Value.int x)] below meth c s₁ [] 0 0 := Stand.of_body Bd
  have e0 : s₁.heap = h0 := by rw [← hh, Bd.state]; rfl
  have N0 := Fr.nil n0
  show own_G p e below s (own_rm2_Q Z x G1 h0 n0) ({ frames := 4, cells := 3, slots := 6, locals := 66 } : Room).cells ({ frames := 4, cells := 3, slots := 6, locals := 66 } : Room).slots (s₁.setTop (entryFrame m #[(Value.int x)] 1))
  refine own_cast (own_rm2_ef m x ) ?_
  show own_G p e below s _ _ _ (s₁.setTop (mkF m 0 #[.val (Value.int x)] []))
  refine own_iloadN X0 hx hby own_d2_0 rfl ?_
  show own_G p e below s _ _ _ (s₁.setTop (mkF m 1 #[.val (Value.int x)] [(Value.int x)]))
  refine own_sipush X0 hx hby own_d2_1 ?_
  show own_G p e below s _ _ _ (s₁.setTop (mkF m 4 #[.val (Value.int x)] [(Value.int (256 : Int32)), (Value.int x)]))
  refine own_iand X0 hx hby own_d2_4 ?_
  show own_G p e below s _ _ _ (s₁.setTop (mkF m 5 #[.val (Value.int x)] [(Value.int (x &&& (256 : Int32)))]))
  refine own_if_eq X0 hx hby own_d2_5 (pc' := 10) (by decide) (by decide) (fun hb1 => ?_) (fun hb1 => ?_)
  · show own_G p e below s _ _ _ (s₁.setTop (mkF m 10 #[.val (Value.int x)] []))
    obtain ⟨T2, h2, X2, e2, E2, A2, D2, -, st2⟩ := newO X0 hx hZ hown (own_w14 hw) (own_w15 hw) (own_w16 hw) e0 (g := (mkF m 10 #[.val (Value.int x)] [])) rfl (hb hby own_d2_10) (by decide) (by decide)
    obtain ⟨ad2, g2⟩ : ∃ z, z = h0.size := ⟨_, rfl⟩
    rw [← g2] at A2 D2 st2
    have O3 := Old.ext O0 E2
    have g2n : n0 ≤ ad2 := by rw [g2]; exact O0.1 ▸ O0.2.1
    have z2n : h0.size ≤ ad2 := by rw [g2]; exact ((Keep.refl h0 [])).1
    have F2_coder : Fld Z h2 ad2 "java/lang/String" "coder" "B" (Value.int (0 : Int32)) := D2 (Or.inr (own_w41 hw)) (ty := .byte) (by decide)
    have F2_value : Fld Z h2 ad2 "java/lang/String" "value" "[B" Value.null := D2 (Or.inr (own_w43 hw)) (ty := (.array .byte)) (by decide)
    have K2 := Keep.ext (Keep.refl h0 []) E2
    refine own_st st2 ?_
    show own_G p e below s _ _ _ (T2.setTop (mkF m 13 #[.val (Value.int x)] [(Value.ref ad2)]))
    refine own_dup X2 hx hby own_d2_13 rfl ?_
    show own_G p e below s _ _ _ (T2.setTop (mkF m 14 #[.val (Value.int x)] [(Value.ref ad2), (Value.ref ad2)]))
    refine own_iconst X2 hx hby own_d2_14 ?_
    show own_G p e below s _ _ _ (T2.setTop (mkF m 15 #[.val (Value.int x)] [(Value.int (1 : Int32)), (Value.ref ad2), (Value.ref ad2)]))
    obtain ⟨T4, h4, k4, X4, e4, E4, A4, st4⟩ := newP X2 hx hZ (aty := .char) (own_w17 hw) e2 (g := (mkF m 15 #[.val (Value.int x)] [(Value.int (1 : Int32)), (Value.ref ad2), (Value.ref ad2)])) rfl (hb hby own_d2_15) rfl (by decide) (cap := 1) (by decide) (by decide) (by decide) (by decide)
    obtain ⟨ad4, g4⟩ : ∃ z, z = h2.size := ⟨_, rfl⟩
    rw [← g4] at A4 st4
    have ne4_ad2 : ad2 ≠ ad4 := by rw [g4]; exact Nat.ne_of_lt F2_coder.lt
    have F5_ad2_coder := Fld.ext E4 F2_coder
    have F5_ad2_value := Fld.ext E4 F2_value
    have E5_ad2 := Exa.ext E4 A2
    have O5 := Old.ext O3 E4
    have g4n : n0 ≤ ad4 := by rw [g4]; exact O3.1 ▸ O3.2.1
    have z4n : h0.size ≤ ad4 := by rw [g4]; exact (K2).1
    have A4v : own_Ar Z h4 ad4 .char 1 (fun _ => (.int (0 : Int32))) := own_Ar.new A4 (by decide)
    have K4 := Keep.ext K2 E4
    refine own_st st4 ?_
    show own_G p e below s _ _ _ (T4.setTop (mkF m 17 #[.val (Value.int x)] [(Value.ref ad4), (Value.ref ad2), (Value.ref ad2)]))
    refine own_dup X4 hx hby own_d2_17 rfl ?_
    show own_G p e below s _ _ _ (T4.setTop (mkF m 18 #[.val (Value.int x)] [(Value.ref ad4), (Value.ref ad4), (Value.ref ad2), (Value.ref ad2)]))
    refine own_iconst X4 hx hby own_d2_18 ?_
    show own_G p e below s _ _ _ (T4.setTop (mkF m 19 #[.val (Value.int x)] [(Value.int (0 : Int32)), (Value.ref ad4), (Value.ref ad4), (Value.ref ad2), (Value.ref ad2)]))
    refine own_iloadN X4 hx hby own_d2_19 rfl ?_
    show own_G p e below s _ _ _ (T4.setTop (mkF m 20 #[.val (Value.int x)] [(Value.int x), (Value.int (0 : Int32)), (Value.ref ad4), (Value.ref ad4), (Value.ref ad2), (Value.ref ad2)]))
    refine own_sipush X4 hx hby own_d2_20 ?_
    show own_G p e below s _ _ _ (T4.setTop (mkF m 23 #[.val (Value.int x)] [(Value.int (255 : Int32)), (Value.int x), (Value.int (0 : Int32)), (Value.ref ad4), (Value.ref ad4), (Value.ref ad2), (Value.ref ad2)]))
    refine own_iand X4 hx hby own_d2_23 ?_
    show own_G p e below s _ _ _ (T4.setTop (mkF m 24 #[.val (Value.int x)] [(Value.int (x &&& (255 : Int32))), (Value.int (0 : Int32)), (Value.ref ad4), (Value.ref ad4), (Value.ref ad2), (Value.ref ad2)]))
    refine own_i2c X4 hx hby own_d2_24 ?_
    show own_G p e below s _ _ _ (T4.setTop (mkF m 25 #[.val (Value.int x)] [(Value.int ((x &&& (255 : Int32)).toUInt32.toUInt16.toUInt32.toInt32)), (Value.int (0 : Int32)), (Value.ref ad4), (Value.ref ad4), (Value.ref ad2), (Value.ref ad2)]))
    obtain ⟨T6, h6, X6, e6, W6, A6, st6⟩ := own_castore X4 hx hby hZ e4 A4v (j := (0 : Int32)) (i := 0) (by decide) (by decide) (x := ((x &&& (255 : Int32)).toUInt32.toUInt16.toUInt32.toInt32)) own_d2_25 (Ls := #[.val (Value.int x)]) (st := [(Value.ref ad4), (Value.ref ad2), (Value.ref ad2)])
    have F7_ad2_coder := Fld.other W6 F5_ad2_coder (Or.inl ne4_ad2)
    have F7_ad2_value := Fld.other W6 F5_ad2_value (Or.inl ne4_ad2)
    have E7_ad2 := Exa.wr W6 E5_ad2
    have O7 := Old.wr O5 W6 g4n
    have N6 := Fr.snoc X6 N0 g4n
    have K6 := Keep.wr K4 W6 (Or.inr z4n)
    refine own_st st6 ?_
    show own_G p e below s _ _ _ (T6.setTop (mkF m 26 #[.val (Value.int x)] [(Value.ref ad4), (Value.ref ad2), (Value.ref ad2)]))
    obtain ⟨kc, Kv⟩ := own_Ar.arv1 (x := (nar .char ((x &&& (255 : Int32)).toUInt32.toUInt16.toUInt32.toInt32))) A6 rfl (fits_nar_char _)
    have hws : ∀ d ∈ StrChars.Road.words, d.before a0 Z = true := fun d hd => hw d ((by decide +kernel : ∀ d ∈ StrChars.Road.words, d ∈ tables_1) d hd)
    have hlat : ∀ c ∈ [(nar .char ((x &&& (255 : Int32)).toUInt32.toUInt16.toUInt32.toInt32))], ¬ c < 0 ∧ ¬ (255 : Int32) < c := by
      intro c hc
      simp only [List.mem_cons, List.not_mem_nil, or_false] at hc
      subst hc
      rw [show (nar .char ((x &&& (255 : Int32)).toUInt32.toUInt16.toUInt32.toInt32)) = x &&& 255 from by simp only [nar, i2c_mask]]; exact own_and255 x
    obtain ⟨_, _, ⟨T8, L8, k8, n8⟩, -, X8, ⟨Lc8, hQ8, l8, y8, z8⟩, st8⟩ := X6.specialBack hx (y := (⟨"java/lang/String", "<init>", "([C)V"⟩ : MethodName)) rfl hown (mvT hZ (own_w18 hw)) (mvT hZ (own_w19 hw)) (mvT hZ (own_w20 hw)) (by decide) (StrChars.Road.backV (W := 1) hZ hws (kI := 4) (own_w15 hw) (cs := [(nar .char ((x &&& (255 : Int32)).toUInt32.toUInt16.toUInt32.toInt32))]) (bs := [(nar .char ((x &&& (255 : Int32)).toUInt32.toUInt16.toUInt32.toInt32)).toInt8.toInt32]) (n := 1) g2n (O7.1 ▸ O7.2.1) E7_ad2 F7_ad2_value F7_ad2_coder Kv (Sta.ext O7.2 hO2) hP3 rfl rfl (by decide) (by decide) hlat rfl (by decide) (by decide)) (g := (mkF m 26 #[.val (Value.int x)] [(Value.ref ad4), (Value.ref ad2), (Value.ref ad2)])) rfl (by rw [hml]; rfl) (Steps.refl _) (a := ad2) (argsL := [(Value.ref ad4)]) (rest := [(Value.ref ad2)]) (lenOf own_pd1 rfl) rfl (by show 2 * 0 + _ ≤ _; exact Nat.le_of_eq rfl) (hb hby own_d2_26) (fun _ _ => ⟨rfl, e6, (by decide : (2 : Nat) + 1 ≤ _), (by decide : (5 : Nat) + 1 ≤ _)⟩)
    dsimp only [Pt.U, Pt.locs, Pt.cells, Pt.slots] at X8 l8 y8 z8 st8 hQ8
    subst l8 y8 z8
    obtain ⟨rfl, Nq8, Kq8, Eq8, -⟩ := hQ8
    have N8 := Fr.app N6 Nq8
    have E9_ad2 := Exa.keep E7_ad2 Kq8
    have A9_ad4 := own_Ar.keep A6 Kq8 (ninS (Ne.symm ne4_ad2) nin0)
    have O9 := Old.keep O7 Kq8 (allS g2n all0)
    have K8 := Keep.trans K6 Kq8 (allS (Or.inr z2n) all0)
    refine own_tr st8 ?_
    show own_G p e below s _ _ _ (T8.setTop (mkF m 29 #[.val (Value.int x)] [(Value.ref ad2)]))
    refine own_retA X8 hx hby hlk Bd.returns rfl rfl rfl own_d2_29 (by decide) (by decide) ?_
    show own_rm2_Q Z x G1 h0 n0 _ T8.heap _
    skip
    exact ⟨_, rfl, rfl, N8, K8⟩
  · show own_G p e below s _ _ _ (s₁.setTop (mkF m 8 #[.val (Value.int x)] []))
    refine own_aconst_null X0 hx hby own_d2_8 ?_
    show own_G p e below s _ _ _ (s₁.setTop (mkF m 9 #[.val (Value.int x)] [Value.null]))
    refine own_retA X0 hx hby hlk Bd.returns rfl rfl rfl own_d2_9 (by decide) (by decide) ?_
    show own_rm2_Q Z x G1 h0 n0 _ s₁.heap _
    rw [e0]
    exact ⟨_, rfl, rfl, N0, (Keep.refl h0 [])⟩
def own_rm0_Q (Z : State) (x0 : Int32) (x1 : Int32) (x2 : Int32) (x3 : Int32) (a_ELEMENT a_ATTRIBUTE a_TEXT a_COMMENT a_PROCESSING_INSTRUCTION : Addr) (G1 : Int32) (h0 : Heap) (n0 : Nat) : Option Value → Heap → List Loc → Prop := fun v h L => v = some (.int 1) ∧ Fr n0 L
theorem own_rm0_ef (m : MethodId) (x0 : Int32) (x1 : Int32) (x2 : Int32) (x3 : Int32)  : entryFrame m #[(Value.int x0), (Value.int x1), (Value.int x2), (Value.int x3)] maxLocals = mkF m 0 #[.val (Value.int x0), .val (Value.int x1), .val (Value.int x2), .val (Value.int x3), .unset, .unset, .unset, .unset] [] := by first | (simp [entryFrame, mkF, argsToLocals, Value.category, maxLocals]; done) | rfl
set_option maxRecDepth 65536 in
set_option maxHeartbeats 40000000 in
theorem own_rm0 (l : Launch) (Z : State) (a0 : Array Value) (hw : ∀ d ∈ tables_1, d.before a0 Z = true) (ws : List Jvm.Cond) (x0 : Int32) (x1 : Int32) (x2 : Int32) (x3 : Int32) (a_ELEMENT a_ATTRIBUTE a_TEXT a_COMMENT a_PROCESSING_INSTRUCTION : Addr) (G1 : Int32) (h0 : Heap) (n0 : Nat) (O0 : Old Z n0 h0) (En_ELEMENT : own_En Z "com/example/inchworm/inchworm/label/NodeKind" "ELEMENT" "Lcom/example/inchworm/inchworm/label/NodeKind;" a_ELEMENT 0) (En_ATTRIBUTE : own_En Z "com/example/inchworm/inchworm/label/NodeKind" "ATTRIBUTE" "Lcom/example/inchworm/inchworm/label/NodeKind;" a_ATTRIBUTE 1) (En_TEXT : own_En Z "com/example/inchworm/inchworm/label/NodeKind" "TEXT" "Lcom/example/inchworm/inchworm/label/NodeKind;" a_TEXT 2) (En_COMMENT : own_En Z "com/example/inchworm/inchworm/label/NodeKind" "COMMENT" "Lcom/example/inchworm/inchworm/label/NodeKind;" a_COMMENT 3) (En_PROCESSING_INSTRUCTION : own_En Z "com/example/inchworm/inchworm/label/NodeKind" "PROCESSING_INSTRUCTION" "Lcom/example/inchworm/inchworm/label/NodeKind;" a_PROCESSING_INSTRUCTION 4) (hO2 : Sta Z Z.heap "java/lang/String" "COMPACT_STRINGS" "Z" (.int G1)) (hP3 : ¬ G1 = (0 : Int32)) :
    MetFree l x (head1 (Jvm.Cond.code x code maxLocals ret :: ws) room_1) (fun aa_ U => aa_ = #[(Value.int x0), (Value.int x1), (Value.int x2), (Value.int x3)] ∧ Z.Warmed39 U.vm ∧ U.heap = h0) (fun _ _ _ _ _ => True) (fun _ UU_ oo_ UX_ => ∃ vv_ LL_, oo_ = .returned vv_ ∧ (own_rm0_Q Z x0 x1 x2 x3 a_ELEMENT a_ATTRIBUTE a_TEXT a_COMMENT a_PROCESSING_INSTRUCTION G1 h0 n0) vv_ UX_.heap LL_ ∧ FrameEnd UU_ oo_ UX_ LL_ 24 128) := by
  refine MetFree.of_bodySF (plainFor_of_name own_pn0) hisR ?_
  intro p e s m args below meth c s₁ Bd hml0 hP hK
  obtain ⟨rfl, hZ, hh⟩ := hP
  have hx := Bd.exec
  have hby := Bd.bytes
  have hml : c.maxLocals = 8 := hml0
  have hown : s.vm.findClass "com/example/inchworm/inchworm/query/NodeTestMayMatchPinLaw" = some m.cls := findClass_of_methodNamed Bd.named
  have hnm := (name_of_methodNamed Bd.named Bd.method).1
  have hlk : meth.locks = false := BodyLoose.notSynchronized Bd
  have X0 : Stand p l e room_1 s m #[(Value.int x0), (Value.int x1), (Value.int x2), (Value.int x3)] below meth c s₁ [] 0 0 := Stand.of_body Bd
  have e0 : s₁.heap = h0 := by rw [← hh, Bd.state]; rfl
  have N0 := Fr.nil n0
  show own_G p e below s (own_rm0_Q Z x0 x1 x2 x3 a_ELEMENT a_ATTRIBUTE a_TEXT a_COMMENT a_PROCESSING_INSTRUCTION G1 h0 n0) 24 128 (s₁.setTop (entryFrame m #[(Value.int x0), (Value.int x1), (Value.int x2), (Value.int x3)] maxLocals))
  refine own_cast (own_rm0_ef m x0 x1 x2 x3 ) ?_
  show own_G p e below s _ _ _ (s₁.setTop (mkF m 0 #[.val (Value.int x0), .val (Value.int x1), .val (Value.int x2), .val (Value.int x3), .unset, .unset, .unset, .unset] []))
  refine own_iloadN X0 hx hby at_0 rfl ?_
  show own_G p e below s _ _ _ (s₁.setTop (mkF m 1 #[.val (Value.int x0), .val (Value.int x1), .val (Value.int x2), .val (Value.int x3), .unset, .unset, .unset, .unset] [(Value.int x0)]))
  refine own_ldcI X0 hx hby hZ hown (own_w0 hw) at_1 ?_
  show own_G p e below s _ _ _ (s₁.setTop (mkF m 3 #[.val (Value.int x0), .val (Value.int x1), .val (Value.int x2), .val (Value.int x3), .unset, .unset, .unset, .unset] [(Value.int (2147483647 : Int32)), (Value.int x0)]))
  refine own_iand X0 hx hby at_3 ?_
  show own_G p e below s _ _ _ (s₁.setTop (mkF m 4 #[.val (Value.int x0), .val (Value.int x1), .val (Value.int x2), .val (Value.int x3), .unset, .unset, .unset, .unset] [(Value.int (x0 &&& (2147483647 : Int32)))]))
  refine own_bipush X0 hx hby at_4 ?_
  show own_G p e below s _ _ _ (s₁.setTop (mkF m 6 #[.val (Value.int x0), .val (Value.int x1), .val (Value.int x2), .val (Value.int x3), .unset, .unset, .unset, .unset] [(Value.int (6 : Int32)), (Value.int (x0 &&& (2147483647 : Int32)))]))
  refine own_irem X0 hx hby at_6 (by decide) ?_
  show own_G p e below s _ _ _ (s₁.setTop (mkF m 7 #[.val (Value.int x0), .val (Value.int x1), .val (Value.int x2), .val (Value.int x3), .unset, .unset, .unset, .unset] [(Value.int ((x0 &&& (2147483647 : Int32)) % (6 : Int32)))]))
  rcases own_mod6 x0 with hk | hk | hk | hk | hk | hk
  · rw [hk]
    show own_G p e below s _ _ _ (s₁.setTop (mkF m 7 #[.val (Value.int x0), .val (Value.int x1), .val (Value.int x2), .val (Value.int x3), .unset, .unset, .unset, .unset] [(Value.int (0 : Int32))]))
    refine own_istore X0 hx hby at_7 (l' := #[.val (Value.int x0), .val (Value.int x1), .val (Value.int x2), .val (Value.int x3), .val (Value.int (0 : Int32)), .unset, .unset, .unset]) rfl ?_
    show own_G p e below s _ _ _ (s₁.setTop (mkF m 9 #[.val (Value.int x0), .val (Value.int x1), .val (Value.int x2), .val (Value.int x3), .val (Value.int (0 : Int32)), .unset, .unset, .unset] []))
    refine own_iloadN X0 hx hby at_9 rfl ?_
    show own_G p e below s _ _ _ (s₁.setTop (mkF m 10 #[.val (Value.int x0), .val (Value.int x1), .val (Value.int x2), .val (Value.int x3), .val (Value.int (0 : Int32)), .unset, .unset, .unset] [(Value.int x1)]))
    refine own_ldcI X0 hx hby hZ hown (own_w0 hw) at_10 ?_
    show own_G p e below s _ _ _ (s₁.setTop (mkF m 12 #[.val (Value.int x0), .val (Value.int x1), .val (Value.int x2), .val (Value.int x3), .val (Value.int (0 : Int32)), .unset, .unset, .unset] [(Value.int (2147483647 : Int32)), (Value.int x1)]))
    refine own_iand X0 hx hby at_12 ?_
    show own_G p e below s _ _ _ (s₁.setTop (mkF m 13 #[.val (Value.int x0), .val (Value.int x1), .val (Value.int x2), .val (Value.int x3), .val (Value.int (0 : Int32)), .unset, .unset, .unset] [(Value.int (x1 &&& (2147483647 : Int32)))]))
    refine own_iconst X0 hx hby at_13 ?_
    show own_G p e below s _ _ _ (s₁.setTop (mkF m 14 #[.val (Value.int x0), .val (Value.int x1), .val (Value.int x2), .val (Value.int x3), .val (Value.int (0 : Int32)), .unset, .unset, .unset] [(Value.int (5 : Int32)), (Value.int (x1 &&& (2147483647 : Int32)))]))
    refine own_irem X0 hx hby at_14 (by decide) ?_
    show own_G p e below s _ _ _ (s₁.setTop (mkF m 15 #[.val (Value.int x0), .val (Value.int x1), .val (Value.int x2), .val (Value.int x3), .val (Value.int (0 : Int32)), .unset, .unset, .unset] [(Value.int ((x1 &&& (2147483647 : Int32)) % (5 : Int32)))]))
    refine own_istore X0 hx hby at_15 (l' := #[.val (Value.int x0), .val (Value.int x1), .val (Value.int x2), .val (Value.int x3), .val (Value.int (0 : Int32)), .val (Value.int ((x1 &&& (2147483647 : Int32)) % (5 : Int32))), .unset, .unset]) rfl ?_
    show own_G p e below s _ _ _ (s₁.setTop (mkF m 17 #[.val (Value.int x0), .val (Value.int x1), .val (Value.int x2), .val (Value.int x3), .val (Value.int (0 : Int32)), .val (Value.int ((x1 &&& (2147483647 : Int32)) % (5 : Int32))), .unset, .unset] []))
    obtain ⟨T1, h1, X1, e1, E1, A1, D1, -, st1⟩ := newO X0 hx hZ hown (own_w1 hw) (own_w2 hw) (own_w3 hw) e0 (g := (mkF m 17 #[.val (Value.int x0), .val (Value.int x1), .val (Value.int x2), .val (Value.int x3), .val (Value.int (0 : Int32)), .val (Value.int ((x1 &&& (2147483647 : Int32)) % (5 : Int32))), .unset, .unset] [])) rfl (hb hby at_17) (by decide) (by decide)
    obtain ⟨ad1, g1⟩ : ∃ z, z = h0.size := ⟨_, rfl⟩
    rw [← g1] at A1 D1 st1
    have O2 := Old.ext O0 E1
    have g1n : n0 ≤ ad1 := by rw [g1]; exact O0.1 ▸ O0.2.1
    have F1_kind : Fld Z h1 ad1 "com/example/inchworm/inchworm/query/NodeTest" "kind" "Lcom/example/inchworm/inchworm/label/NodeKind;" Value.null := D1 (Or.inr (own_w54 hw)) (ty := (.object "com/example/inchworm/inchworm/label/NodeKind")) (by decide)
    have F1_namespace : Fld Z h1 ad1 "com/example/inchworm/inchworm/query/NodeTest" "namespace" "Ljava/lang/String;" Value.null := D1 (Or.inr (own_w56 hw)) (ty := (.object "java/lang/String")) (by decide)
    have F1_name : Fld Z h1 ad1 "com/example/inchworm/inchworm/query/NodeTest" "name" "Ljava/lang/String;" Value.null := D1 (Or.inr (own_w58 hw)) (ty := (.object "java/lang/String")) (by decide)
    refine own_st st1 ?_
    show own_G p e below s _ _ _ (T1.setTop (mkF m 20 #[.val (Value.int x0), .val (Value.int x1), .val (Value.int x2), .val (Value.int x3), .val (Value.int (0 : Int32)), .val (Value.int ((x1 &&& (2147483647 : Int32)) % (5 : Int32))), .unset, .unset] [(Value.ref ad1)]))
    refine own_dup X1 hx hby at_20 rfl ?_
    show own_G p e below s _ _ _ (T1.setTop (mkF m 21 #[.val (Value.int x0), .val (Value.int x1), .val (Value.int x2), .val (Value.int x3), .val (Value.int (0 : Int32)), .val (Value.int ((x1 &&& (2147483647 : Int32)) % (5 : Int32))), .unset, .unset] [(Value.ref ad1), (Value.ref ad1)]))
    refine own_iload X1 hx hby at_21 rfl ?_
    show own_G p e below s _ _ _ (T1.setTop (mkF m 23 #[.val (Value.int x0), .val (Value.int x1), .val (Value.int x2), .val (Value.int x3), .val (Value.int (0 : Int32)), .val (Value.int ((x1 &&& (2147483647 : Int32)) % (5 : Int32))), .unset, .unset] [(Value.int (0 : Int32)), (Value.ref ad1), (Value.ref ad1)]))
    obtain ⟨_, _, ⟨T3, L3, k3, n3⟩, -, X3, ⟨Lc3, hQ3, l3, y3, z3⟩, st3⟩ := Jvm.LawKit.callS X1 hx (y := (⟨"com/example/inchworm/inchworm/query/NodeTestMayMatchPinLaw", "kindOf", "(I)Lcom/example/inchworm/inchworm/label/NodeKind;"⟩ : MethodName)) hown (mvT hZ (own_w4 hw)) (mvT hZ (own_w5 hw)) (mvT hZ (own_w6 hw)) (mvT hZ (own_w7 hw)) (by decide) (backOf (W := 2) (own_rm1 l Z a0 hw [] (0 : Int32) a_ELEMENT a_ATTRIBUTE a_TEXT a_COMMENT a_PROCESSING_INSTRUCTION h1 n0 O2  En_ELEMENT En_ATTRIBUTE En_TEXT En_COMMENT En_PROCESSING_INSTRUCTION) hZ (own_w7 hw) (own_w6 hw) (by decide) (by decide)) (g := (mkF m 23 #[.val (Value.int x0), .val (Value.int x1), .val (Value.int x2), .val (Value.int x3), .val (Value.int (0 : Int32)), .val (Value.int ((x1 &&& (2147483647 : Int32)) % (5 : Int32))), .unset, .unset] [(Value.int (0 : Int32)), (Value.ref ad1), (Value.ref ad1)])) rfl (by rw [hml]; rfl) (argsL := [(Value.int (0 : Int32))]) (rest := [(Value.ref ad1), (Value.ref ad1)]) (lenOf own_pd2 rfl) rfl (by show 2 * 0 + _ ≤ _; exact Nat.le_of_eq rfl) (hb hby at_23) (fun _ _ => ⟨rfl, e1, (by decide : (1 : Nat) + 0 ≤ _), (by decide : (3 : Nat) + 0 ≤ _)⟩)
    dsimp only [Pt.U, Pt.locs, Pt.cells, Pt.slots] at X3 l3 y3 z3 st3 hQ3
    subst l3 y3 z3
    obtain ⟨rfl, e3, Nq3⟩ := hQ3
    have N3 := Fr.app N0 Nq3
    refine own_st st3 ?_
    show own_G p e below s _ _ _ (T3.setTop (mkF m 26 #[.val (Value.int x0), .val (Value.int x1), .val (Value.int x2), .val (Value.int x3), .val (Value.int (0 : Int32)), .val (Value.int ((x1 &&& (2147483647 : Int32)) % (5 : Int32))), .unset, .unset] [(own_kd (0 : Int32) a_ELEMENT a_ATTRIBUTE a_TEXT a_COMMENT a_PROCESSING_INSTRUCTION), (Value.ref ad1), (Value.ref ad1)]))
    rw [show (own_kd (0 : Int32) a_ELEMENT a_ATTRIBUTE a_TEXT a_COMMENT a_PROCESSING_INSTRUCTION) = (Value.ref a_ELEMENT) from by simp [own_kd]]
    refine own_iloadN X3 hx hby at_26 rfl ?_
    show own_G p e below s _ _ _ (T3.setTop (mkF m 27 #[.val (Value.int x0), .val (Value.int x1), .val (Value.int x2), .val (Value.int x3), .val (Value.int (0 : Int32)), .val (Value.int ((x1 &&& (2147483647 : Int32)) % (5 : Int32))), .unset, .unset] [(Value.int x2), (Value.ref a_ELEMENT), (Value.ref ad1), (Value.ref ad1)]))
    obtain ⟨_, _, ⟨T4, L4, k4, n4⟩, -, X4, ⟨Lc4, hQ4, l4, y4, z4⟩, st4⟩ := Jvm.LawKit.callS X3 hx (y := (⟨"com/example/inchworm/inchworm/query/NodeTestMayMatchPinLaw", "drawn", "(I)Ljava/lang/String;"⟩ : MethodName)) hown (mvT hZ (own_w11 hw)) (mvT hZ (own_w12 hw)) (mvT hZ (own_w6 hw)) (mvT hZ (own_w13 hw)) (by decide) (backOf (W := 3) (own_rm2 l Z a0 hw [] x2 G1 h1 n0 O2  hO2 hP3) hZ (own_w13 hw) (own_w6 hw) (by decide) (by decide)) (g := (mkF m 27 #[.val (Value.int x0), .val (Value.int x1), .val (Value.int x2), .val (Value.int x3), .val (Value.int (0 : Int32)), .val (Value.int ((x1 &&& (2147483647 : Int32)) % (5 : Int32))), .unset, .unset] [(Value.int x2), (Value.ref a_ELEMENT), (Value.ref ad1), (Value.ref ad1)])) rfl (by rw [hml]; rfl) (argsL := [(Value.int x2)]) (rest := [(Value.ref a_ELEMENT), (Value.ref ad1), (Value.ref ad1)]) (lenOf own_pd3 rfl) rfl (by show 2 * 0 + _ ≤ _; exact Nat.le_of_eq rfl) (hb hby at_27) (fun _ _ => ⟨rfl, e3, (by decide : (1 : Nat) + 3 ≤ _), (by decide : (3 : Nat) + 6 ≤ _)⟩)
    dsimp only [Pt.U, Pt.locs, Pt.cells, Pt.slots] at X4 l4 y4 z4 st4 hQ4
    subst l4 y4 z4
    obtain ⟨r4, rfl, hr4, Nq4, Kq4⟩ := hQ4
    have N4 := Fr.app N3 Nq4
    have F5_ad1_kind := Fld.keep F1_kind Kq4 nin0
    have F5_ad1_namespace := Fld.keep F1_namespace Kq4 nin0
    have F5_ad1_name := Fld.keep F1_name Kq4 nin0
    have E5_ad1 := Exa.keep A1 Kq4
    have O5 := Old.keep O2 Kq4 all0
    refine own_st st4 ?_
    show own_G p e below s _ _ _ (T4.setTop (mkF m 30 #[.val (Value.int x0), .val (Value.int x1), .val (Value.int x2), .val (Value.int x3), .val (Value.int (0 : Int32)), .val (Value.int ((x1 &&& (2147483647 : Int32)) % (5 : Int32))), .unset, .unset] [r4, (Value.ref a_ELEMENT), (Value.ref ad1), (Value.ref ad1)]))
    refine own_iloadN X4 hx hby at_30 rfl ?_
    show own_G p e below s _ _ _ (T4.setTop (mkF m 31 #[.val (Value.int x0), .val (Value.int x1), .val (Value.int x2), .val (Value.int x3), .val (Value.int (0 : Int32)), .val (Value.int ((x1 &&& (2147483647 : Int32)) % (5 : Int32))), .unset, .unset] [(Value.int x3), r4, (Value.ref a_ELEMENT), (Value.ref ad1), (Value.ref ad1)]))
    obtain ⟨_, _, ⟨T6, L6, k6, n6⟩, -, X6, ⟨Lc6, hQ6, l6, y6, z6⟩, st6⟩ := Jvm.LawKit.callS X4 hx (y := (⟨"com/example/inchworm/inchworm/query/NodeTestMayMatchPinLaw", "drawn", "(I)Ljava/lang/String;"⟩ : MethodName)) hown (mvT hZ (own_w11 hw)) (mvT hZ (own_w12 hw)) (mvT hZ (own_w6 hw)) (mvT hZ (own_w13 hw)) (by decide) (backOf (W := 4) (own_rm2 l Z a0 hw [] x3 G1 T4.heap n0 O5  hO2 hP3) hZ (own_w13 hw) (own_w6 hw) (by decide) (by decide)) (g := (mkF m 31 #[.val (Value.int x0), .val (Value.int x1), .val (Value.int x2), .val (Value.int x3), .val (Value.int (0 : Int32)), .val (Value.int ((x1 &&& (2147483647 : Int32)) % (5 : Int32))), .unset, .unset] [(Value.int x3), r4, (Value.ref a_ELEMENT), (Value.ref ad1), (Value.ref ad1)])) rfl (by rw [hml]; rfl) (argsL := [(Value.int x3)]) (rest := [r4, (Value.ref a_ELEMENT), (Value.ref ad1), (Value.ref ad1)]) (lenOf own_pd3 rfl) rfl (by simp only [List.map_cons, List.map_nil, List.sum_cons, List.sum_nil, own_catR hr4]; exact Nat.le_of_eq rfl) (hb hby at_31) (fun _ _ => ⟨rfl, rfl, (by decide : (4 : Nat) + 3 ≤ _), (by decide : (9 : Nat) + 6 ≤ _)⟩)
    dsimp only [Pt.U, Pt.locs, Pt.cells, Pt.slots] at X6 l6 y6 z6 st6 hQ6
    subst l6 y6 z6
    obtain ⟨r6, rfl, hr6, Nq6, Kq6⟩ := hQ6
    have N6 := Fr.app N4 Nq6
    have F7_ad1_kind := Fld.keep F5_ad1_kind Kq6 nin0
    have F7_ad1_namespace := Fld.keep F5_ad1_namespace Kq6 nin0
    have F7_ad1_name := Fld.keep F5_ad1_name Kq6 nin0
    have E7_ad1 := Exa.keep E5_ad1 Kq6
    have O7 := Old.keep O5 Kq6 all0
    refine own_st st6 ?_
    show own_G p e below s _ _ _ (T6.setTop (mkF m 34 #[.val (Value.int x0), .val (Value.int x1), .val (Value.int x2), .val (Value.int x3), .val (Value.int (0 : Int32)), .val (Value.int ((x1 &&& (2147483647 : Int32)) % (5 : Int32))), .unset, .unset] [r6, r4, (Value.ref a_ELEMENT), (Value.ref ad1), (Value.ref ad1)]))
    obtain ⟨_, _, ⟨T8, L8, k8, n8⟩, -, X8, ⟨Lc8, hQ8, l8, y8, z8⟩, st8⟩ := X6.specialBack hx (y := (⟨"com/example/inchworm/inchworm/query/NodeTest", "<init>", "(Lcom/example/inchworm/inchworm/label/NodeKind;Ljava/lang/String;Ljava/lang/String;)V"⟩ : MethodName)) rfl hown (mvT hZ (own_w44 hw)) (mvT hZ (own_w45 hw)) (mvT hZ (own_w46 hw)) (by decide) (backOf (W := 1) (own_rmTA l Z a0 hw [] ad1 a_ELEMENT r4 r6  T6.heap n0 O7 hr4 hr6 E7_ad1 F7_ad1_kind F7_ad1_namespace F7_ad1_name g1n) hZ (own_w46 hw) (own_w3 hw) (by decide) (by decide)) (g := (mkF m 34 #[.val (Value.int x0), .val (Value.int x1), .val (Value.int x2), .val (Value.int x3), .val (Value.int (0 : Int32)), .val (Value.int ((x1 &&& (2147483647 : Int32)) % (5 : Int32))), .unset, .unset] [r6, r4, (Value.ref a_ELEMENT), (Value.ref ad1), (Value.ref ad1)])) rfl (by rw [hml]; rfl) (Steps.refl _) (a := ad1) (argsL := [(Value.ref a_ELEMENT), r4, r6]) (rest := [(Value.ref ad1)]) (lenOf own_pd4 rfl) rfl (by show 2 * 0 + _ ≤ _; exact Nat.le_of_eq rfl) (hb hby at_34) (fun _ _ => ⟨rfl, rfl, (by decide : (7 : Nat) + 0 ≤ _), (by decide : (15 : Nat) + 0 ≤ _)⟩)
    dsimp only [Pt.U, Pt.locs, Pt.cells, Pt.slots] at X8 l8 y8 z8 st8 hQ8
    subst l8 y8 z8
    obtain ⟨rfl, Nq8, Kq8, Eq8, Fq8_kind, Fq8_namespace, Fq8_name⟩ := hQ8
    have N8 := Fr.app N6 Nq8
    have E9_ad1 := Exa.keep E7_ad1 Kq8
    have O9 := Old.keep O7 Kq8 (allS g1n all0)
    refine own_tr st8 ?_
    show own_G p e below s _ _ _ (T8.setTop (mkF m 37 #[.val (Value.int x0), .val (Value.int x1), .val (Value.int x2), .val (Value.int x3), .val (Value.int (0 : Int32)), .val (Value.int ((x1 &&& (2147483647 : Int32)) % (5 : Int32))), .unset, .unset] [(Value.ref ad1)]))
    refine own_astore X8 hx hby at_37 rfl (l' := #[.val (Value.int x0), .val (Value.int x1), .val (Value.int x2), .val (Value.int x3), .val (Value.int (0 : Int32)), .val (Value.int ((x1 &&& (2147483647 : Int32)) % (5 : Int32))), .val (Value.ref ad1), .unset]) rfl ?_
    show own_G p e below s _ _ _ (T8.setTop (mkF m 39 #[.val (Value.int x0), .val (Value.int x1), .val (Value.int x2), .val (Value.int x3), .val (Value.int (0 : Int32)), .val (Value.int ((x1 &&& (2147483647 : Int32)) % (5 : Int32))), .val (Value.ref ad1), .unset] []))
    refine own_iload X8 hx hby at_39 rfl ?_
    show own_G p e below s _ _ _ (T8.setTop (mkF m 41 #[.val (Value.int x0), .val (Value.int x1), .val (Value.int x2), .val (Value.int x3), .val (Value.int (0 : Int32)), .val (Value.int ((x1 &&& (2147483647 : Int32)) % (5 : Int32))), .val (Value.ref ad1), .unset] [(Value.int (0 : Int32))]))
    refine own_iconst X8 hx hby at_41 ?_
    show own_G p e below s _ _ _ (T8.setTop (mkF m 42 #[.val (Value.int x0), .val (Value.int x1), .val (Value.int x2), .val (Value.int x3), .val (Value.int (0 : Int32)), .val (Value.int ((x1 &&& (2147483647 : Int32)) % (5 : Int32))), .val (Value.ref ad1), .unset] [(Value.int (5 : Int32)), (Value.int (0 : Int32))]))
    refine own_icmp_eq X8 hx hby at_42 (pc' := 52) (by decide) (by decide) (fun hb10 => by exfalso; revert hb10; decide) (fun hb10 => ?_)
    show own_G p e below s _ _ _ (T8.setTop (mkF m 45 #[.val (Value.int x0), .val (Value.int x1), .val (Value.int x2), .val (Value.int x3), .val (Value.int (0 : Int32)), .val (Value.int ((x1 &&& (2147483647 : Int32)) % (5 : Int32))), .val (Value.ref ad1), .unset] []))
    refine own_iload X8 hx hby at_45 rfl ?_
    show own_G p e below s _ _ _ (T8.setTop (mkF m 47 #[.val (Value.int x0), .val (Value.int x1), .val (Value.int x2), .val (Value.int x3), .val (Value.int (0 : Int32)), .val (Value.int ((x1 &&& (2147483647 : Int32)) % (5 : Int32))), .val (Value.ref ad1), .unset] [(Value.int (0 : Int32))]))
    refine own_iload X8 hx hby at_47 rfl ?_
    show own_G p e below s _ _ _ (T8.setTop (mkF m 49 #[.val (Value.int x0), .val (Value.int x1), .val (Value.int x2), .val (Value.int x3), .val (Value.int (0 : Int32)), .val (Value.int ((x1 &&& (2147483647 : Int32)) % (5 : Int32))), .val (Value.ref ad1), .unset] [(Value.int ((x1 &&& (2147483647 : Int32)) % (5 : Int32))), (Value.int (0 : Int32))]))
    refine own_icmp_ne X8 hx hby at_49 (pc' := 56) (by decide) (by decide) (fun hb11 => ?_) (fun hb11 => ?_)
    · show own_G p e below s _ _ _ (T8.setTop (mkF m 56 #[.val (Value.int x0), .val (Value.int x1), .val (Value.int x2), .val (Value.int x3), .val (Value.int (0 : Int32)), .val (Value.int ((x1 &&& (2147483647 : Int32)) % (5 : Int32))), .val (Value.ref ad1), .unset] []))
      refine own_iconst X8 hx hby at_56 ?_
      show own_G p e below s _ _ _ (T8.setTop (mkF m 57 #[.val (Value.int x0), .val (Value.int x1), .val (Value.int x2), .val (Value.int x3), .val (Value.int (0 : Int32)), .val (Value.int ((x1 &&& (2147483647 : Int32)) % (5 : Int32))), .val (Value.ref ad1), .unset] [(Value.int (0 : Int32))]))
      refine own_istore X8 hx hby at_57 (l' := #[.val (Value.int x0), .val (Value.int x1), .val (Value.int x2), .val (Value.int x3), .val (Value.int (0 : Int32)), .val (Value.int ((x1 &&& (2147483647 : Int32)) % (5 : Int32))), .val (Value.ref ad1), .val (Value.int (0 : Int32))]) rfl ?_
      show own_G p e below s _ _ _ (T8.setTop (mkF m 59 #[.val (Value.int x0), .val (Value.int x1), .val (Value.int x2), .val (Value.int x3), .val (Value.int (0 : Int32)), .val (Value.int ((x1 &&& (2147483647 : Int32)) % (5 : Int32))), .val (Value.ref ad1), .val (Value.int (0 : Int32))] []))
      refine own_aload X8 hx hby at_59 rfl rfl ?_
      show own_G p e below s _ _ _ (T8.setTop (mkF m 61 #[.val (Value.int x0), .val (Value.int x1), .val (Value.int x2), .val (Value.int x3), .val (Value.int (0 : Int32)), .val (Value.int ((x1 &&& (2147483647 : Int32)) % (5 : Int32))), .val (Value.ref ad1), .val (Value.int (0 : Int32))] [(Value.ref ad1)]))
      refine own_iload X8 hx hby at_61 rfl ?_
      show own_G p e below s _ _ _ (T8.setTop (mkF m 63 #[.val (Value.int x0), .val (Value.int x1), .val (Value.int x2), .val (Value.int x3), .val (Value.int (0 : Int32)), .val (Value.int ((x1 &&& (2147483647 : Int32)) % (5 : Int32))), .val (Value.ref ad1), .val (Value.int (0 : Int32))] [(Value.int ((x1 &&& (2147483647 : Int32)) % (5 : Int32))), (Value.ref ad1)]))
      obtain ⟨_, _, ⟨T12, L12, k12, n12⟩, -, X12, ⟨Lc12, hQ12, l12, y12, z12⟩, st12⟩ := Jvm.LawKit.callS X8 hx (y := (⟨"com/example/inchworm/inchworm/query/NodeTestMayMatchPinLaw", "kindOf", "(I)Lcom/example/inchworm/inchworm/label/NodeKind;"⟩ : MethodName)) hown (mvT hZ (own_w4 hw)) (mvT hZ (own_w5 hw)) (mvT hZ (own_w6 hw)) (mvT hZ (own_w7 hw)) (by decide) (backOf (W := 1) (own_rm1 l Z a0 hw [] ((x1 &&& (2147483647 : Int32)) % (5 : Int32)) a_ELEMENT a_ATTRIBUTE a_TEXT a_COMMENT a_PROCESSING_INSTRUCTION T8.heap n0 O9  En_ELEMENT En_ATTRIBUTE En_TEXT En_COMMENT En_PROCESSING_INSTRUCTION) hZ (own_w7 hw) (own_w6 hw) (by decide) (by decide)) (g := (mkF m 63 #[.val (Value.int x0), .val (Value.int x1), .val (Value.int x2), .val (Value.int x3), .val (Value.int (0 : Int32)), .val (Value.int ((x1 &&& (2147483647 : Int32)) % (5 : Int32))), .val (Value.ref ad1), .val (Value.int (0 : Int32))] [(Value.int ((x1 &&& (2147483647 : Int32)) % (5 : Int32))), (Value.ref ad1)])) rfl (by rw [hml]; rfl) (argsL := [(Value.int ((x1 &&& (2147483647 : Int32)) % (5 : Int32)))]) (rest := [(Value.ref ad1)]) (lenOf own_pd2 rfl) rfl (by show 2 * 0 + _ ≤ _; exact Nat.le_of_eq rfl) (hb hby at_63) (fun _ _ => ⟨rfl, rfl, (by decide : (7 : Nat) + 0 ≤ _), (by decide : (15 : Nat) + 0 ≤ _)⟩)
      dsimp only [Pt.U, Pt.locs, Pt.cells, Pt.slots] at X12 l12 y12 z12 st12 hQ12
      subst l12 y12 z12
      obtain ⟨rfl, e12, Nq12⟩ := hQ12
      have N12 := Fr.app N8 Nq12
      refine own_st st12 ?_
      show own_G p e below s _ _ _ (T12.setTop (mkF m 66 #[.val (Value.int x0), .val (Value.int x1), .val (Value.int x2), .val (Value.int x3), .val (Value.int (0 : Int32)), .val (Value.int ((x1 &&& (2147483647 : Int32)) % (5 : Int32))), .val (Value.ref ad1), .val (Value.int (0 : Int32))] [(own_kd ((x1 &&& (2147483647 : Int32)) % (5 : Int32)) a_ELEMENT a_ATTRIBUTE a_TEXT a_COMMENT a_PROCESSING_INSTRUCTION), (Value.ref ad1)]))
      obtain ⟨cq13, kq13, q13a, q13b, q13c⟩ := isOf (T := T12) hZ e12 Eq8
      obtain ⟨_, _, ⟨T13, L13, k13, n13⟩, -, X13, ⟨Lc13, hQ13, l13, y13, z13⟩, st13⟩ := X12.virtualBack hx (y := (⟨"com/example/inchworm/inchworm/query/NodeTest", "mayMatch", "(Lcom/example/inchworm/inchworm/label/NodeKind;)Z"⟩ : MethodName)) (z := (⟨"com/example/inchworm/inchworm/query/NodeTest", "mayMatch", "(Lcom/example/inchworm/inchworm/label/NodeKind;)Z"⟩ : MethodName)) hown (mvT hZ (own_w61 hw)) (mvT hZ (own_w62 hw)) (notFace_of_selects (args := #[]) (mvT hZ (own_w64 hw))) (mvT hZ (own_w64 hw)) (mvT hZ (own_w63 hw)) (by decide) (backOf (W := 0) (own_rmMA l Z a0 hw [] ad1 (own_kd ((x1 &&& (2147483647 : Int32)) % (5 : Int32)) a_ELEMENT a_ATTRIBUTE a_TEXT a_COMMENT a_PROCESSING_INSTRUCTION) a_ELEMENT T8.heap n0 O9 (own_kd_ref _ _ _ _ _ _) Fq8_kind) hZ (own_w65 hw) (own_w3 hw) (by decide) (by decide)) q13a q13c (g := (mkF m 66 #[.val (Value.int x0), .val (Value.int x1), .val (Value.int x2), .val (Value.int x3), .val (Value.int (0 : Int32)), .val (Value.int ((x1 &&& (2147483647 : Int32)) % (5 : Int32))), .val (Value.ref ad1), .val (Value.int (0 : Int32))] [(own_kd ((x1 &&& (2147483647 : Int32)) % (5 : Int32)) a_ELEMENT a_ATTRIBUTE a_TEXT a_COMMENT a_PROCESSING_INSTRUCTION), (Value.ref ad1)])) rfl (by rw [hml]; rfl) (Steps.refl _) (argsL := [(own_kd ((x1 &&& (2147483647 : Int32)) % (5 : Int32)) a_ELEMENT a_ATTRIBUTE a_TEXT a_COMMENT a_PROCESSING_INSTRUCTION)]) (rest := []) (lenOf own_pd5 rfl) rfl (by show 2 * 0 + _ ≤ _; exact Nat.le_of_eq rfl) (hb hby at_66) (fun _ _ => ⟨rfl, e12, (by decide : (7 : Nat) + 0 ≤ _), (by decide : (15 : Nat) + 0 ≤ _)⟩)
      dsimp only [Pt.U, Pt.locs, Pt.cells, Pt.slots] at X13 l13 y13 z13 st13 hQ13
      subst l13 y13 z13
      obtain ⟨rfl, e13, Nq13⟩ := hQ13
      have N13 := Fr.app N12 Nq13
      refine own_tr st13 ?_
      show own_G p e below s _ _ _ (T13.setTop (mkF m 69 #[.val (Value.int x0), .val (Value.int x1), .val (Value.int x2), .val (Value.int x3), .val (Value.int (0 : Int32)), .val (Value.int ((x1 &&& (2147483647 : Int32)) % (5 : Int32))), .val (Value.ref ad1), .val (Value.int (0 : Int32))] [(Value.int (own_mm (.ref a_ELEMENT) (own_kd ((x1 &&& (2147483647 : Int32)) % (5 : Int32)) a_ELEMENT a_ATTRIBUTE a_TEXT a_COMMENT a_PROCESSING_INSTRUCTION)))]))
      refine own_iload X13 hx hby at_69 rfl ?_
      show own_G p e below s _ _ _ (T13.setTop (mkF m 71 #[.val (Value.int x0), .val (Value.int x1), .val (Value.int x2), .val (Value.int x3), .val (Value.int (0 : Int32)), .val (Value.int ((x1 &&& (2147483647 : Int32)) % (5 : Int32))), .val (Value.ref ad1), .val (Value.int (0 : Int32))] [(Value.int (0 : Int32)), (Value.int (own_mm (.ref a_ELEMENT) (own_kd ((x1 &&& (2147483647 : Int32)) % (5 : Int32)) a_ELEMENT a_ATTRIBUTE a_TEXT a_COMMENT a_PROCESSING_INSTRUCTION)))]))
      refine own_icmp_ne X13 hx hby at_71 (pc' := 78) (by decide) (by decide) (fun hb14 => by exfalso; exact hb14 (if_neg (fun q => hb11 (own_kd_inj_ELEMENT (Fld.ne En_ATTRIBUTE.2.2 En_ELEMENT.2.2 (by decide)) (Fld.ne En_TEXT.2.2 En_ELEMENT.2.2 (by decide)) (Fld.ne En_COMMENT.2.2 En_ELEMENT.2.2 (by decide)) (Fld.ne En_PROCESSING_INSTRUCTION.2.2 En_ELEMENT.2.2 (by decide)) q.symm).symm))) (fun hb14 => ?_)
      show own_G p e below s _ _ _ (T13.setTop (mkF m 74 #[.val (Value.int x0), .val (Value.int x1), .val (Value.int x2), .val (Value.int x3), .val (Value.int (0 : Int32)), .val (Value.int ((x1 &&& (2147483647 : Int32)) % (5 : Int32))), .val (Value.ref ad1), .val (Value.int (0 : Int32))] []))
      refine own_iconst X13 hx hby at_74 ?_
      show own_G p e below s _ _ _ (T13.setTop (mkF m 75 #[.val (Value.int x0), .val (Value.int x1), .val (Value.int x2), .val (Value.int x3), .val (Value.int (0 : Int32)), .val (Value.int ((x1 &&& (2147483647 : Int32)) % (5 : Int32))), .val (Value.ref ad1), .val (Value.int (0 : Int32))] [(Value.int (1 : Int32))]))
      refine own_goto X13 hx hby at_75 (pc' := 79) (by decide) (by decide) ?_
      show own_G p e below s _ _ _ (T13.setTop (mkF m 79 #[.val (Value.int x0), .val (Value.int x1), .val (Value.int x2), .val (Value.int x3), .val (Value.int (0 : Int32)), .val (Value.int ((x1 &&& (2147483647 : Int32)) % (5 : Int32))), .val (Value.ref ad1), .val (Value.int (0 : Int32))] [(Value.int (1 : Int32))]))
      refine own_retN X13 hx hby hlk (t := .boolean) Bd.returns (by simp) at_79 (by decide) (by decide) ?_
      exact ⟨rfl, N13⟩
    · show own_G p e below s _ _ _ (T8.setTop (mkF m 52 #[.val (Value.int x0), .val (Value.int x1), .val (Value.int x2), .val (Value.int x3), .val (Value.int (0 : Int32)), .val (Value.int ((x1 &&& (2147483647 : Int32)) % (5 : Int32))), .val (Value.ref ad1), .unset] []))
      refine own_iconst X8 hx hby at_52 ?_
      show own_G p e below s _ _ _ (T8.setTop (mkF m 53 #[.val (Value.int x0), .val (Value.int x1), .val (Value.int x2), .val (Value.int x3), .val (Value.int (0 : Int32)), .val (Value.int ((x1 &&& (2147483647 : Int32)) % (5 : Int32))), .val (Value.ref ad1), .unset] [(Value.int (1 : Int32))]))
      refine own_goto X8 hx hby at_53 (pc' := 57) (by decide) (by decide) ?_
      show own_G p e below s _ _ _ (T8.setTop (mkF m 57 #[.val (Value.int x0), .val (Value.int x1), .val (Value.int x2), .val (Value.int x3), .val (Value.int (0 : Int32)), .val (Value.int ((x1 &&& (2147483647 : Int32)) % (5 : Int32))), .val (Value.ref ad1), .unset] [(Value.int (1 : Int32))]))
      refine own_istore X8 hx hby at_57 (l' := #[.val (Value.int x0), .val (Value.int x1), .val (Value.int x2), .val (Value.int x3), .val (Value.int (0 : Int32)), .val (Value.int ((x1 &&& (2147483647 : Int32)) % (5 : Int32))), .val (Value.ref ad1), .val (Value.int (1 : Int32))]) rfl ?_
      show own_G p e below s _ _ _ (T8.setTop (mkF m 59 #[.val (Value.int x0), .val (Value.int x1), .val (Value.int x2), .val (Value.int x3), .val (Value.int (0 : Int32)), .val (Value.int ((x1 &&& (2147483647 : Int32)) % (5 : Int32))), .val (Value.ref ad1), .val (Value.int (1 : Int32))] []))
      refine own_aload X8 hx hby at_59 rfl rfl ?_
      show own_G p e below s _ _ _ (T8.setTop (mkF m 61 #[.val (Value.int x0), .val (Value.int x1), .val (Value.int x2), .val (Value.int x3), .val (Value.int (0 : Int32)), .val (Value.int ((x1 &&& (2147483647 : Int32)) % (5 : Int32))), .val (Value.ref ad1), .val (Value.int (1 : Int32))] [(Value.ref ad1)]))
      refine own_iload X8 hx hby at_61 rfl ?_
      show own_G p e below s _ _ _ (T8.setTop (mkF m 63 #[.val (Value.int x0), .val (Value.int x1), .val (Value.int x2), .val (Value.int x3), .val (Value.int (0 : Int32)), .val (Value.int ((x1 &&& (2147483647 : Int32)) % (5 : Int32))), .val (Value.ref ad1), .val (Value.int (1 : Int32))] [(Value.int ((x1 &&& (2147483647 : Int32)) % (5 : Int32))), (Value.ref ad1)]))
      obtain ⟨_, _, ⟨T15, L15, k15, n15⟩, -, X15, ⟨Lc15, hQ15, l15, y15, z15⟩, st15⟩ := Jvm.LawKit.callS X8 hx (y := (⟨"com/example/inchworm/inchworm/query/NodeTestMayMatchPinLaw", "kindOf", "(I)Lcom/example/inchworm/inchworm/label/NodeKind;"⟩ : MethodName)) hown (mvT hZ (own_w4 hw)) (mvT hZ (own_w5 hw)) (mvT hZ (own_w6 hw)) (mvT hZ (own_w7 hw)) (by decide) (backOf (W := 1) (own_rm1 l Z a0 hw [] ((x1 &&& (2147483647 : Int32)) % (5 : Int32)) a_ELEMENT a_ATTRIBUTE a_TEXT a_COMMENT a_PROCESSING_INSTRUCTION T8.heap n0 O9  En_ELEMENT En_ATTRIBUTE En_TEXT En_COMMENT En_PROCESSING_INSTRUCTION) hZ (own_w7 hw) (own_w6 hw) (by decide) (by decide)) (g := (mkF m 63 #[.val (Value.int x0), .val (Value.int x1), .val (Value.int x2), .val (Value.int x3), .val (Value.int (0 : Int32)), .val (Value.int ((x1 &&& (2147483647 : Int32)) % (5 : Int32))), .val (Value.ref ad1), .val (Value.int (1 : Int32))] [(Value.int ((x1 &&& (2147483647 : Int32)) % (5 : Int32))), (Value.ref ad1)])) rfl (by rw [hml]; rfl) (argsL := [(Value.int ((x1 &&& (2147483647 : Int32)) % (5 : Int32)))]) (rest := [(Value.ref ad1)]) (lenOf own_pd2 rfl) rfl (by show 2 * 0 + _ ≤ _; exact Nat.le_of_eq rfl) (hb hby at_63) (fun _ _ => ⟨rfl, rfl, (by decide : (7 : Nat) + 0 ≤ _), (by decide : (15 : Nat) + 0 ≤ _)⟩)
      dsimp only [Pt.U, Pt.locs, Pt.cells, Pt.slots] at X15 l15 y15 z15 st15 hQ15
      subst l15 y15 z15
      obtain ⟨rfl, e15, Nq15⟩ := hQ15
      have N15 := Fr.app N8 Nq15
      refine own_st st15 ?_
      show own_G p e below s _ _ _ (T15.setTop (mkF m 66 #[.val (Value.int x0), .val (Value.int x1), .val (Value.int x2), .val (Value.int x3), .val (Value.int (0 : Int32)), .val (Value.int ((x1 &&& (2147483647 : Int32)) % (5 : Int32))), .val (Value.ref ad1), .val (Value.int (1 : Int32))] [(own_kd ((x1 &&& (2147483647 : Int32)) % (5 : Int32)) a_ELEMENT a_ATTRIBUTE a_TEXT a_COMMENT a_PROCESSING_INSTRUCTION), (Value.ref ad1)]))
      obtain ⟨cq16, kq16, q16a, q16b, q16c⟩ := isOf (T := T15) hZ e15 Eq8
      obtain ⟨_, _, ⟨T16, L16, k16, n16⟩, -, X16, ⟨Lc16, hQ16, l16, y16, z16⟩, st16⟩ := X15.virtualBack hx (y := (⟨"com/example/inchworm/inchworm/query/NodeTest", "mayMatch", "(Lcom/example/inchworm/inchworm/label/NodeKind;)Z"⟩ : MethodName)) (z := (⟨"com/example/inchworm/inchworm/query/NodeTest", "mayMatch", "(Lcom/example/inchworm/inchworm/label/NodeKind;)Z"⟩ : MethodName)) hown (mvT hZ (own_w61 hw)) (mvT hZ (own_w62 hw)) (notFace_of_selects (args := #[]) (mvT hZ (own_w64 hw))) (mvT hZ (own_w64 hw)) (mvT hZ (own_w63 hw)) (by decide) (backOf (W := 0) (own_rmMA l Z a0 hw [] ad1 (own_kd ((x1 &&& (2147483647 : Int32)) % (5 : Int32)) a_ELEMENT a_ATTRIBUTE a_TEXT a_COMMENT a_PROCESSING_INSTRUCTION) a_ELEMENT T8.heap n0 O9 (own_kd_ref _ _ _ _ _ _) Fq8_kind) hZ (own_w65 hw) (own_w3 hw) (by decide) (by decide)) q16a q16c (g := (mkF m 66 #[.val (Value.int x0), .val (Value.int x1), .val (Value.int x2), .val (Value.int x3), .val (Value.int (0 : Int32)), .val (Value.int ((x1 &&& (2147483647 : Int32)) % (5 : Int32))), .val (Value.ref ad1), .val (Value.int (1 : Int32))] [(own_kd ((x1 &&& (2147483647 : Int32)) % (5 : Int32)) a_ELEMENT a_ATTRIBUTE a_TEXT a_COMMENT a_PROCESSING_INSTRUCTION), (Value.ref ad1)])) rfl (by rw [hml]; rfl) (Steps.refl _) (argsL := [(own_kd ((x1 &&& (2147483647 : Int32)) % (5 : Int32)) a_ELEMENT a_ATTRIBUTE a_TEXT a_COMMENT a_PROCESSING_INSTRUCTION)]) (rest := []) (lenOf own_pd5 rfl) rfl (by show 2 * 0 + _ ≤ _; exact Nat.le_of_eq rfl) (hb hby at_66) (fun _ _ => ⟨rfl, e15, (by decide : (7 : Nat) + 0 ≤ _), (by decide : (15 : Nat) + 0 ≤ _)⟩)
      dsimp only [Pt.U, Pt.locs, Pt.cells, Pt.slots] at X16 l16 y16 z16 st16 hQ16
      subst l16 y16 z16
      obtain ⟨rfl, e16, Nq16⟩ := hQ16
      have N16 := Fr.app N15 Nq16
      refine own_tr st16 ?_
      show own_G p e below s _ _ _ (T16.setTop (mkF m 69 #[.val (Value.int x0), .val (Value.int x1), .val (Value.int x2), .val (Value.int x3), .val (Value.int (0 : Int32)), .val (Value.int ((x1 &&& (2147483647 : Int32)) % (5 : Int32))), .val (Value.ref ad1), .val (Value.int (1 : Int32))] [(Value.int (own_mm (.ref a_ELEMENT) (own_kd ((x1 &&& (2147483647 : Int32)) % (5 : Int32)) a_ELEMENT a_ATTRIBUTE a_TEXT a_COMMENT a_PROCESSING_INSTRUCTION)))]))
      refine own_iload X16 hx hby at_69 rfl ?_
      show own_G p e below s _ _ _ (T16.setTop (mkF m 71 #[.val (Value.int x0), .val (Value.int x1), .val (Value.int x2), .val (Value.int x3), .val (Value.int (0 : Int32)), .val (Value.int ((x1 &&& (2147483647 : Int32)) % (5 : Int32))), .val (Value.ref ad1), .val (Value.int (1 : Int32))] [(Value.int (1 : Int32)), (Value.int (own_mm (.ref a_ELEMENT) (own_kd ((x1 &&& (2147483647 : Int32)) % (5 : Int32)) a_ELEMENT a_ATTRIBUTE a_TEXT a_COMMENT a_PROCESSING_INSTRUCTION)))]))
      refine own_icmp_ne X16 hx hby at_71 (pc' := 78) (by decide) (by decide) (fun hb17 => by exfalso; exact hb17 (by rw [← hb11]; simp [own_mm, own_kd])) (fun hb17 => ?_)
      show own_G p e below s _ _ _ (T16.setTop (mkF m 74 #[.val (Value.int x0), .val (Value.int x1), .val (Value.int x2), .val (Value.int x3), .val (Value.int (0 : Int32)), .val (Value.int ((x1 &&& (2147483647 : Int32)) % (5 : Int32))), .val (Value.ref ad1), .val (Value.int (1 : Int32))] []))
      refine own_iconst X16 hx hby at_74 ?_
      show own_G p e below s _ _ _ (T16.setTop (mkF m 75 #[.val (Value.int x0), .val (Value.int x1), .val (Value.int x2), .val (Value.int x3), .val (Value.int (0 : Int32)), .val (Value.int ((x1 &&& (2147483647 : Int32)) % (5 : Int32))), .val (Value.ref ad1), .val (Value.int (1 : Int32))] [(Value.int (1 : Int32))]))
      refine own_goto X16 hx hby at_75 (pc' := 79) (by decide) (by decide) ?_
      show own_G p e below s _ _ _ (T16.setTop (mkF m 79 #[.val (Value.int x0), .val (Value.int x1), .val (Value.int x2), .val (Value.int x3), .val (Value.int (0 : Int32)), .val (Value.int ((x1 &&& (2147483647 : Int32)) % (5 : Int32))), .val (Value.ref ad1), .val (Value.int (1 : Int32))] [(Value.int (1 : Int32))]))
      refine own_retN X16 hx hby hlk (t := .boolean) Bd.returns (by simp) at_79 (by decide) (by decide) ?_
      exact ⟨rfl, N16⟩
  · rw [hk]
    show own_G p e below s _ _ _ (s₁.setTop (mkF m 7 #[.val (Value.int x0), .val (Value.int x1), .val (Value.int x2), .val (Value.int x3), .unset, .unset, .unset, .unset] [(Value.int (1 : Int32))]))
    refine own_istore X0 hx hby at_7 (l' := #[.val (Value.int x0), .val (Value.int x1), .val (Value.int x2), .val (Value.int x3), .val (Value.int (1 : Int32)), .unset, .unset, .unset]) rfl ?_
    show own_G p e below s _ _ _ (s₁.setTop (mkF m 9 #[.val (Value.int x0), .val (Value.int x1), .val (Value.int x2), .val (Value.int x3), .val (Value.int (1 : Int32)), .unset, .unset, .unset] []))
    refine own_iloadN X0 hx hby at_9 rfl ?_
    show own_G p e below s _ _ _ (s₁.setTop (mkF m 10 #[.val (Value.int x0), .val (Value.int x1), .val (Value.int x2), .val (Value.int x3), .val (Value.int (1 : Int32)), .unset, .unset, .unset] [(Value.int x1)]))
    refine own_ldcI X0 hx hby hZ hown (own_w0 hw) at_10 ?_
    show own_G p e below s _ _ _ (s₁.setTop (mkF m 12 #[.val (Value.int x0), .val (Value.int x1), .val (Value.int x2), .val (Value.int x3), .val (Value.int (1 : Int32)), .unset, .unset, .unset] [(Value.int (2147483647 : Int32)), (Value.int x1)]))
    refine own_iand X0 hx hby at_12 ?_
    show own_G p e below s _ _ _ (s₁.setTop (mkF m 13 #[.val (Value.int x0), .val (Value.int x1), .val (Value.int x2), .val (Value.int x3), .val (Value.int (1 : Int32)), .unset, .unset, .unset] [(Value.int (x1 &&& (2147483647 : Int32)))]))
    refine own_iconst X0 hx hby at_13 ?_
    show own_G p e below s _ _ _ (s₁.setTop (mkF m 14 #[.val (Value.int x0), .val (Value.int x1), .val (Value.int x2), .val (Value.int x3), .val (Value.int (1 : Int32)), .unset, .unset, .unset] [(Value.int (5 : Int32)), (Value.int (x1 &&& (2147483647 : Int32)))]))
    refine own_irem X0 hx hby at_14 (by decide) ?_
    show own_G p e below s _ _ _ (s₁.setTop (mkF m 15 #[.val (Value.int x0), .val (Value.int x1), .val (Value.int x2), .val (Value.int x3), .val (Value.int (1 : Int32)), .unset, .unset, .unset] [(Value.int ((x1 &&& (2147483647 : Int32)) % (5 : Int32)))]))
    refine own_istore X0 hx hby at_15 (l' := #[.val (Value.int x0), .val (Value.int x1), .val (Value.int x2), .val (Value.int x3), .val (Value.int (1 : Int32)), .val (Value.int ((x1 &&& (2147483647 : Int32)) % (5 : Int32))), .unset, .unset]) rfl ?_
    show own_G p e below s _ _ _ (s₁.setTop (mkF m 17 #[.val (Value.int x0), .val (Value.int x1), .val (Value.int x2), .val (Value.int x3), .val (Value.int (1 : Int32)), .val (Value.int ((x1 &&& (2147483647 : Int32)) % (5 : Int32))), .unset, .unset] []))
    obtain ⟨T18, h18, X18, e18, E18, A18, D18, -, st18⟩ := newO X0 hx hZ hown (own_w1 hw) (own_w2 hw) (own_w3 hw) e0 (g := (mkF m 17 #[.val (Value.int x0), .val (Value.int x1), .val (Value.int x2), .val (Value.int x3), .val (Value.int (1 : Int32)), .val (Value.int ((x1 &&& (2147483647 : Int32)) % (5 : Int32))), .unset, .unset] [])) rfl (hb hby at_17) (by decide) (by decide)
    obtain ⟨ad18, g18⟩ : ∃ z, z = h0.size := ⟨_, rfl⟩
    rw [← g18] at A18 D18 st18
    have O19 := Old.ext O0 E18
    have g18n : n0 ≤ ad18 := by rw [g18]; exact O0.1 ▸ O0.2.1
    have F18_kind : Fld Z h18 ad18 "com/example/inchworm/inchworm/query/NodeTest" "kind" "Lcom/example/inchworm/inchworm/label/NodeKind;" Value.null := D18 (Or.inr (own_w54 hw)) (ty := (.object "com/example/inchworm/inchworm/label/NodeKind")) (by decide)
    have F18_namespace : Fld Z h18 ad18 "com/example/inchworm/inchworm/query/NodeTest" "namespace" "Ljava/lang/String;" Value.null := D18 (Or.inr (own_w56 hw)) (ty := (.object "java/lang/String")) (by decide)
    have F18_name : Fld Z h18 ad18 "com/example/inchworm/inchworm/query/NodeTest" "name" "Ljava/lang/String;" Value.null := D18 (Or.inr (own_w58 hw)) (ty := (.object "java/lang/String")) (by decide)
    refine own_st st18 ?_
    show own_G p e below s _ _ _ (T18.setTop (mkF m 20 #[.val (Value.int x0), .val (Value.int x1), .val (Value.int x2), .val (Value.int x3), .val (Value.int (1 : Int32)), .val (Value.int ((x1 &&& (2147483647 : Int32)) % (5 : Int32))), .unset, .unset] [(Value.ref ad18)]))
    refine own_dup X18 hx hby at_20 rfl ?_
    show own_G p e below s _ _ _ (T18.setTop (mkF m 21 #[.val (Value.int x0), .val (Value.int x1), .val (Value.int x2), .val (Value.int x3), .val (Value.int (1 : Int32)), .val (Value.int ((x1 &&& (2147483647 : Int32)) % (5 : Int32))), .unset, .unset] [(Value.ref ad18), (Value.ref ad18)]))
    refine own_iload X18 hx hby at_21 rfl ?_
    show own_G p e below s _ _ _ (T18.setTop (mkF m 23 #[.val (Value.int x0), .val (Value.int x1), .val (Value.int x2), .val (Value.int x3), .val (Value.int (1 : Int32)), .val (Value.int ((x1 &&& (2147483647 : Int32)) % (5 : Int32))), .unset, .unset] [(Value.int (1 : Int32)), (Value.ref ad18), (Value.ref ad18)]))
    obtain ⟨_, _, ⟨T20, L20, k20, n20⟩, -, X20, ⟨Lc20, hQ20, l20, y20, z20⟩, st20⟩ := Jvm.LawKit.callS X18 hx (y := (⟨"com/example/inchworm/inchworm/query/NodeTestMayMatchPinLaw", "kindOf", "(I)Lcom/example/inchworm/inchworm/label/NodeKind;"⟩ : MethodName)) hown (mvT hZ (own_w4 hw)) (mvT hZ (own_w5 hw)) (mvT hZ (own_w6 hw)) (mvT hZ (own_w7 hw)) (by decide) (backOf (W := 2) (own_rm1 l Z a0 hw [] (1 : Int32) a_ELEMENT a_ATTRIBUTE a_TEXT a_COMMENT a_PROCESSING_INSTRUCTION h18 n0 O19  En_ELEMENT En_ATTRIBUTE En_TEXT En_COMMENT En_PROCESSING_INSTRUCTION) hZ (own_w7 hw) (own_w6 hw) (by decide) (by decide)) (g := (mkF m 23 #[.val (Value.int x0), .val (Value.int x1), .val (Value.int x2), .val (Value.int x3), .val (Value.int (1 : Int32)), .val (Value.int ((x1 &&& (2147483647 : Int32)) % (5 : Int32))), .unset, .unset] [(Value.int (1 : Int32)), (Value.ref ad18), (Value.ref ad18)])) rfl (by rw [hml]; rfl) (argsL := [(Value.int (1 : Int32))]) (rest := [(Value.ref ad18), (Value.ref ad18)]) (lenOf own_pd2 rfl) rfl (by show 2 * 0 + _ ≤ _; exact Nat.le_of_eq rfl) (hb hby at_23) (fun _ _ => ⟨rfl, e18, (by decide : (1 : Nat) + 0 ≤ _), (by decide : (3 : Nat) + 0 ≤ _)⟩)
    dsimp only [Pt.U, Pt.locs, Pt.cells, Pt.slots] at X20 l20 y20 z20 st20 hQ20
    subst l20 y20 z20
    obtain ⟨rfl, e20, Nq20⟩ := hQ20
    have N20 := Fr.app N0 Nq20
    refine own_st st20 ?_
    show own_G p e below s _ _ _ (T20.setTop (mkF m 26 #[.val (Value.int x0), .val (Value.int x1), .val (Value.int x2), .val (Value.int x3), .val (Value.int (1 : Int32)), .val (Value.int ((x1 &&& (2147483647 : Int32)) % (5 : Int32))), .unset, .unset] [(own_kd (1 : Int32) a_ELEMENT a_ATTRIBUTE a_TEXT a_COMMENT a_PROCESSING_INSTRUCTION), (Value.ref ad18), (Value.ref ad18)]))
    rw [show (own_kd (1 : Int32) a_ELEMENT a_ATTRIBUTE a_TEXT a_COMMENT a_PROCESSING_INSTRUCTION) = (Value.ref a_ATTRIBUTE) from by simp [own_kd]]
    refine own_iloadN X20 hx hby at_26 rfl ?_
    show own_G p e below s _ _ _ (T20.setTop (mkF m 27 #[.val (Value.int x0), .val (Value.int x1), .val (Value.int x2), .val (Value.int x3), .val (Value.int (1 : Int32)), .val (Value.int ((x1 &&& (2147483647 : Int32)) % (5 : Int32))), .unset, .unset] [(Value.int x2), (Value.ref a_ATTRIBUTE), (Value.ref ad18), (Value.ref ad18)]))
    obtain ⟨_, _, ⟨T21, L21, k21, n21⟩, -, X21, ⟨Lc21, hQ21, l21, y21, z21⟩, st21⟩ := Jvm.LawKit.callS X20 hx (y := (⟨"com/example/inchworm/inchworm/query/NodeTestMayMatchPinLaw", "drawn", "(I)Ljava/lang/String;"⟩ : MethodName)) hown (mvT hZ (own_w11 hw)) (mvT hZ (own_w12 hw)) (mvT hZ (own_w6 hw)) (mvT hZ (own_w13 hw)) (by decide) (backOf (W := 3) (own_rm2 l Z a0 hw [] x2 G1 h18 n0 O19  hO2 hP3) hZ (own_w13 hw) (own_w6 hw) (by decide) (by decide)) (g := (mkF m 27 #[.val (Value.int x0), .val (Value.int x1), .val (Value.int x2), .val (Value.int x3), .val (Value.int (1 : Int32)), .val (Value.int ((x1 &&& (2147483647 : Int32)) % (5 : Int32))), .unset, .unset] [(Value.int x2), (Value.ref a_ATTRIBUTE), (Value.ref ad18), (Value.ref ad18)])) rfl (by rw [hml]; rfl) (argsL := [(Value.int x2)]) (rest := [(Value.ref a_ATTRIBUTE), (Value.ref ad18), (Value.ref ad18)]) (lenOf own_pd3 rfl) rfl (by show 2 * 0 + _ ≤ _; exact Nat.le_of_eq rfl) (hb hby at_27) (fun _ _ => ⟨rfl, e20, (by decide : (1 : Nat) + 3 ≤ _), (by decide : (3 : Nat) + 6 ≤ _)⟩)
    dsimp only [Pt.U, Pt.locs, Pt.cells, Pt.slots] at X21 l21 y21 z21 st21 hQ21
    subst l21 y21 z21
    obtain ⟨r21, rfl, hr21, Nq21, Kq21⟩ := hQ21
    have N21 := Fr.app N20 Nq21
    have F22_ad18_kind := Fld.keep F18_kind Kq21 nin0
    have F22_ad18_namespace := Fld.keep F18_namespace Kq21 nin0
    have F22_ad18_name := Fld.keep F18_name Kq21 nin0
    have E22_ad18 := Exa.keep A18 Kq21
    have O22 := Old.keep O19 Kq21 all0
    refine own_st st21 ?_
    show own_G p e below s _ _ _ (T21.setTop (mkF m 30 #[.val (Value.int x0), .val (Value.int x1), .val (Value.int x2), .val (Value.int x3), .val (Value.int (1 : Int32)), .val (Value.int ((x1 &&& (2147483647 : Int32)) % (5 : Int32))), .unset, .unset] [r21, (Value.ref a_ATTRIBUTE), (Value.ref ad18), (Value.ref ad18)]))
    refine own_iloadN X21 hx hby at_30 rfl ?_
    show own_G p e below s _ _ _ (T21.setTop (mkF m 31 #[.val (Value.int x0), .val (Value.int x1), .val (Value.int x2), .val (Value.int x3), .val (Value.int (1 : Int32)), .val (Value.int ((x1 &&& (2147483647 : Int32)) % (5 : Int32))), .unset, .unset] [(Value.int x3), r21, (Value.ref a_ATTRIBUTE), (Value.ref ad18), (Value.ref ad18)]))
    obtain ⟨_, _, ⟨T23, L23, k23, n23⟩, -, X23, ⟨Lc23, hQ23, l23, y23, z23⟩, st23⟩ := Jvm.LawKit.callS X21 hx (y := (⟨"com/example/inchworm/inchworm/query/NodeTestMayMatchPinLaw", "drawn", "(I)Ljava/lang/String;"⟩ : MethodName)) hown (mvT hZ (own_w11 hw)) (mvT hZ (own_w12 hw)) (mvT hZ (own_w6 hw)) (mvT hZ (own_w13 hw)) (by decide) (backOf (W := 4) (own_rm2 l Z a0 hw [] x3 G1 T21.heap n0 O22  hO2 hP3) hZ (own_w13 hw) (own_w6 hw) (by decide) (by decide)) (g := (mkF m 31 #[.val (Value.int x0), .val (Value.int x1), .val (Value.int x2), .val (Value.int x3), .val (Value.int (1 : Int32)), .val (Value.int ((x1 &&& (2147483647 : Int32)) % (5 : Int32))), .unset, .unset] [(Value.int x3), r21, (Value.ref a_ATTRIBUTE), (Value.ref ad18), (Value.ref ad18)])) rfl (by rw [hml]; rfl) (argsL := [(Value.int x3)]) (rest := [r21, (Value.ref a_ATTRIBUTE), (Value.ref ad18), (Value.ref ad18)]) (lenOf own_pd3 rfl) rfl (by simp only [List.map_cons, List.map_nil, List.sum_cons, List.sum_nil, own_catR hr21]; exact Nat.le_of_eq rfl) (hb hby at_31) (fun _ _ => ⟨rfl, rfl, (by decide : (4 : Nat) + 3 ≤ _), (by decide : (9 : Nat) + 6 ≤ _)⟩)
    dsimp only [Pt.U, Pt.locs, Pt.cells, Pt.slots] at X23 l23 y23 z23 st23 hQ23
    subst l23 y23 z23
    obtain ⟨r23, rfl, hr23, Nq23, Kq23⟩ := hQ23
    have N23 := Fr.app N21 Nq23
    have F24_ad18_kind := Fld.keep F22_ad18_kind Kq23 nin0
    have F24_ad18_namespace := Fld.keep F22_ad18_namespace Kq23 nin0
    have F24_ad18_name := Fld.keep F22_ad18_name Kq23 nin0
    have E24_ad18 := Exa.keep E22_ad18 Kq23
    have O24 := Old.keep O22 Kq23 all0
    refine own_st st23 ?_
    show own_G p e below s _ _ _ (T23.setTop (mkF m 34 #[.val (Value.int x0), .val (Value.int x1), .val (Value.int x2), .val (Value.int x3), .val (Value.int (1 : Int32)), .val (Value.int ((x1 &&& (2147483647 : Int32)) % (5 : Int32))), .unset, .unset] [r23, r21, (Value.ref a_ATTRIBUTE), (Value.ref ad18), (Value.ref ad18)]))
    obtain ⟨_, _, ⟨T25, L25, k25, n25⟩, -, X25, ⟨Lc25, hQ25, l25, y25, z25⟩, st25⟩ := X23.specialBack hx (y := (⟨"com/example/inchworm/inchworm/query/NodeTest", "<init>", "(Lcom/example/inchworm/inchworm/label/NodeKind;Ljava/lang/String;Ljava/lang/String;)V"⟩ : MethodName)) rfl hown (mvT hZ (own_w44 hw)) (mvT hZ (own_w45 hw)) (mvT hZ (own_w46 hw)) (by decide) (backOf (W := 1) (own_rmTA l Z a0 hw [] ad18 a_ATTRIBUTE r21 r23  T23.heap n0 O24 hr21 hr23 E24_ad18 F24_ad18_kind F24_ad18_namespace F24_ad18_name g18n) hZ (own_w46 hw) (own_w3 hw) (by decide) (by decide)) (g := (mkF m 34 #[.val (Value.int x0), .val (Value.int x1), .val (Value.int x2), .val (Value.int x3), .val (Value.int (1 : Int32)), .val (Value.int ((x1 &&& (2147483647 : Int32)) % (5 : Int32))), .unset, .unset] [r23, r21, (Value.ref a_ATTRIBUTE), (Value.ref ad18), (Value.ref ad18)])) rfl (by rw [hml]; rfl) (Steps.refl _) (a := ad18) (argsL := [(Value.ref a_ATTRIBUTE), r21, r23]) (rest := [(Value.ref ad18)]) (lenOf own_pd4 rfl) rfl (by show 2 * 0 + _ ≤ _; exact Nat.le_of_eq rfl) (hb hby at_34) (fun _ _ => ⟨rfl, rfl, (by decide : (7 : Nat) + 0 ≤ _), (by decide : (15 : Nat) + 0 ≤ _)⟩)
    dsimp only [Pt.U, Pt.locs, Pt.cells, Pt.slots] at X25 l25 y25 z25 st25 hQ25
    subst l25 y25 z25
    obtain ⟨rfl, Nq25, Kq25, Eq25, Fq25_kind, Fq25_namespace, Fq25_name⟩ := hQ25
    have N25 := Fr.app N23 Nq25
    have E26_ad18 := Exa.keep E24_ad18 Kq25
    have O26 := Old.keep O24 Kq25 (allS g18n all0)
    refine own_tr st25 ?_
    show own_G p e below s _ _ _ (T25.setTop (mkF m 37 #[.val (Value.int x0), .val (Value.int x1), .val (Value.int x2), .val (Value.int x3), .val (Value.int (1 : Int32)), .val (Value.int ((x1 &&& (2147483647 : Int32)) % (5 : Int32))), .unset, .unset] [(Value.ref ad18)]))
    refine own_astore X25 hx hby at_37 rfl (l' := #[.val (Value.int x0), .val (Value.int x1), .val (Value.int x2), .val (Value.int x3), .val (Value.int (1 : Int32)), .val (Value.int ((x1 &&& (2147483647 : Int32)) % (5 : Int32))), .val (Value.ref ad18), .unset]) rfl ?_
    show own_G p e below s _ _ _ (T25.setTop (mkF m 39 #[.val (Value.int x0), .val (Value.int x1), .val (Value.int x2), .val (Value.int x3), .val (Value.int (1 : Int32)), .val (Value.int ((x1 &&& (2147483647 : Int32)) % (5 : Int32))), .val (Value.ref ad18), .unset] []))
    refine own_iload X25 hx hby at_39 rfl ?_
    show own_G p e below s _ _ _ (T25.setTop (mkF m 41 #[.val (Value.int x0), .val (Value.int x1), .val (Value.int x2), .val (Value.int x3), .val (Value.int (1 : Int32)), .val (Value.int ((x1 &&& (2147483647 : Int32)) % (5 : Int32))), .val (Value.ref ad18), .unset] [(Value.int (1 : Int32))]))
    refine own_iconst X25 hx hby at_41 ?_
    show own_G p e below s _ _ _ (T25.setTop (mkF m 42 #[.val (Value.int x0), .val (Value.int x1), .val (Value.int x2), .val (Value.int x3), .val (Value.int (1 : Int32)), .val (Value.int ((x1 &&& (2147483647 : Int32)) % (5 : Int32))), .val (Value.ref ad18), .unset] [(Value.int (5 : Int32)), (Value.int (1 : Int32))]))
    refine own_icmp_eq X25 hx hby at_42 (pc' := 52) (by decide) (by decide) (fun hb27 => by exfalso; revert hb27; decide) (fun hb27 => ?_)
    show own_G p e below s _ _ _ (T25.setTop (mkF m 45 #[.val (Value.int x0), .val (Value.int x1), .val (Value.int x2), .val (Value.int x3), .val (Value.int (1 : Int32)), .val (Value.int ((x1 &&& (2147483647 : Int32)) % (5 : Int32))), .val (Value.ref ad18), .unset] []))
    refine own_iload X25 hx hby at_45 rfl ?_
    show own_G p e below s _ _ _ (T25.setTop (mkF m 47 #[.val (Value.int x0), .val (Value.int x1), .val (Value.int x2), .val (Value.int x3), .val (Value.int (1 : Int32)), .val (Value.int ((x1 &&& (2147483647 : Int32)) % (5 : Int32))), .val (Value.ref ad18), .unset] [(Value.int (1 : Int32))]))
    refine own_iload X25 hx hby at_47 rfl ?_
    show own_G p e below s _ _ _ (T25.setTop (mkF m 49 #[.val (Value.int x0), .val (Value.int x1), .val (Value.int x2), .val (Value.int x3), .val (Value.int (1 : Int32)), .val (Value.int ((x1 &&& (2147483647 : Int32)) % (5 : Int32))), .val (Value.ref ad18), .unset] [(Value.int ((x1 &&& (2147483647 : Int32)) % (5 : Int32))), (Value.int (1 : Int32))]))
    refine own_icmp_ne X25 hx hby at_49 (pc' := 56) (by decide) (by decide) (fun hb28 => ?_) (fun hb28 => ?_)
    · show own_G p e below s _ _ _ (T25.setTop (mkF m 56 #[.val (Value.int x0), .val (Value.int x1), .val (Value.int x2), .val (Value.int x3), .val (Value.int (1 : Int32)), .val (Value.int ((x1 &&& (2147483647 : Int32)) % (5 : Int32))), .val (Value.ref ad18), .unset] []))
      refine own_iconst X25 hx hby at_56 ?_
      show own_G p e below s _ _ _ (T25.setTop (mkF m 57 #[.val (Value.int x0), .val (Value.int x1), .val (Value.int x2), .val (Value.int x3), .val (Value.int (1 : Int32)), .val (Value.int ((x1 &&& (2147483647 : Int32)) % (5 : Int32))), .val (Value.ref ad18), .unset] [(Value.int (0 : Int32))]))
      refine own_istore X25 hx hby at_57 (l' := #[.val (Value.int x0), .val (Value.int x1), .val (Value.int x2), .val (Value.int x3), .val (Value.int (1 : Int32)), .val (Value.int ((x1 &&& (2147483647 : Int32)) % (5 : Int32))), .val (Value.ref ad18), .val (Value.int (0 : Int32))]) rfl ?_
      show own_G p e below s _ _ _ (T25.setTop (mkF m 59 #[.val (Value.int x0), .val (Value.int x1), .val (Value.int x2), .val (Value.int x3), .val (Value.int (1 : Int32)), .val (Value.int ((x1 &&& (2147483647 : Int32)) % (5 : Int32))), .val (Value.ref ad18), .val (Value.int (0 : Int32))] []))
      refine own_aload X25 hx hby at_59 rfl rfl ?_
      show own_G p e below s _ _ _ (T25.setTop (mkF m 61 #[.val (Value.int x0), .val (Value.int x1), .val (Value.int x2), .val (Value.int x3), .val (Value.int (1 : Int32)), .val (Value.int ((x1 &&& (2147483647 : Int32)) % (5 : Int32))), .val (Value.ref ad18), .val (Value.int (0 : Int32))] [(Value.ref ad18)]))
      refine own_iload X25 hx hby at_61 rfl ?_
      show own_G p e below s _ _ _ (T25.setTop (mkF m 63 #[.val (Value.int x0), .val (Value.int x1), .val (Value.int x2), .val (Value.int x3), .val (Value.int (1 : Int32)), .val (Value.int ((x1 &&& (2147483647 : Int32)) % (5 : Int32))), .val (Value.ref ad18), .val (Value.int (0 : Int32))] [(Value.int ((x1 &&& (2147483647 : Int32)) % (5 : Int32))), (Value.ref ad18)]))
      obtain ⟨_, _, ⟨T29, L29, k29, n29⟩, -, X29, ⟨Lc29, hQ29, l29, y29, z29⟩, st29⟩ := Jvm.LawKit.callS X25 hx (y := (⟨"com/example/inchworm/inchworm/query/NodeTestMayMatchPinLaw", "kindOf", "(I)Lcom/example/inchworm/inchworm/label/NodeKind;"⟩ : MethodName)) hown (mvT hZ (own_w4 hw)) (mvT hZ (own_w5 hw)) (mvT hZ (own_w6 hw)) (mvT hZ (own_w7 hw)) (by decide) (backOf (W := 1) (own_rm1 l Z a0 hw [] ((x1 &&& (2147483647 : Int32)) % (5 : Int32)) a_ELEMENT a_ATTRIBUTE a_TEXT a_COMMENT a_PROCESSING_INSTRUCTION T25.heap n0 O26  En_ELEMENT En_ATTRIBUTE En_TEXT En_COMMENT En_PROCESSING_INSTRUCTION) hZ (own_w7 hw) (own_w6 hw) (by decide) (by decide)) (g := (mkF m 63 #[.val (Value.int x0), .val (Value.int x1), .val (Value.int x2), .val (Value.int x3), .val (Value.int (1 : Int32)), .val (Value.int ((x1 &&& (2147483647 : Int32)) % (5 : Int32))), .val (Value.ref ad18), .val (Value.int (0 : Int32))] [(Value.int ((x1 &&& (2147483647 : Int32)) % (5 : Int32))), (Value.ref ad18)])) rfl (by rw [hml]; rfl) (argsL := [(Value.int ((x1 &&& (2147483647 : Int32)) % (5 : Int32)))]) (rest := [(Value.ref ad18)]) (lenOf own_pd2 rfl) rfl (by show 2 * 0 + _ ≤ _; exact Nat.le_of_eq rfl) (hb hby at_63) (fun _ _ => ⟨rfl, rfl, (by decide : (7 : Nat) + 0 ≤ _), (by decide : (15 : Nat) + 0 ≤ _)⟩)
      dsimp only [Pt.U, Pt.locs, Pt.cells, Pt.slots] at X29 l29 y29 z29 st29 hQ29
      subst l29 y29 z29
      obtain ⟨rfl, e29, Nq29⟩ := hQ29
      have N29 := Fr.app N25 Nq29
      refine own_st st29 ?_
      show own_G p e below s _ _ _ (T29.setTop (mkF m 66 #[.val (Value.int x0), .val (Value.int x1), .val (Value.int x2), .val (Value.int x3), .val (Value.int (1 : Int32)), .val (Value.int ((x1 &&& (2147483647 : Int32)) % (5 : Int32))), .val (Value.ref ad18), .val (Value.int (0 : Int32))] [(own_kd ((x1 &&& (2147483647 : Int32)) % (5 : Int32)) a_ELEMENT a_ATTRIBUTE a_TEXT a_COMMENT a_PROCESSING_INSTRUCTION), (Value.ref ad18)]))
      obtain ⟨cq30, kq30, q30a, q30b, q30c⟩ := isOf (T := T29) hZ e29 Eq25
      obtain ⟨_, _, ⟨T30, L30, k30, n30⟩, -, X30, ⟨Lc30, hQ30, l30, y30, z30⟩, st30⟩ := X29.virtualBack hx (y := (⟨"com/example/inchworm/inchworm/query/NodeTest", "mayMatch", "(Lcom/example/inchworm/inchworm/label/NodeKind;)Z"⟩ : MethodName)) (z := (⟨"com/example/inchworm/inchworm/query/NodeTest", "mayMatch", "(Lcom/example/inchworm/inchworm/label/NodeKind;)Z"⟩ : MethodName)) hown (mvT hZ (own_w61 hw)) (mvT hZ (own_w62 hw)) (notFace_of_selects (args := #[]) (mvT hZ (own_w64 hw))) (mvT hZ (own_w64 hw)) (mvT hZ (own_w63 hw)) (by decide) (backOf (W := 0) (own_rmMA l Z a0 hw [] ad18 (own_kd ((x1 &&& (2147483647 : Int32)) % (5 : Int32)) a_ELEMENT a_ATTRIBUTE a_TEXT a_COMMENT a_PROCESSING_INSTRUCTION) a_ATTRIBUTE T25.heap n0 O26 (own_kd_ref _ _ _ _ _ _) Fq25_kind) hZ (own_w65 hw) (own_w3 hw) (by decide) (by decide)) q30a q30c (g := (mkF m 66 #[.val (Value.int x0), .val (Value.int x1), .val (Value.int x2), .val (Value.int x3), .val (Value.int (1 : Int32)), .val (Value.int ((x1 &&& (2147483647 : Int32)) % (5 : Int32))), .val (Value.ref ad18), .val (Value.int (0 : Int32))] [(own_kd ((x1 &&& (2147483647 : Int32)) % (5 : Int32)) a_ELEMENT a_ATTRIBUTE a_TEXT a_COMMENT a_PROCESSING_INSTRUCTION), (Value.ref ad18)])) rfl (by rw [hml]; rfl) (Steps.refl _) (argsL := [(own_kd ((x1 &&& (2147483647 : Int32)) % (5 : Int32)) a_ELEMENT a_ATTRIBUTE a_TEXT a_COMMENT a_PROCESSING_INSTRUCTION)]) (rest := []) (lenOf own_pd5 rfl) rfl (by show 2 * 0 + _ ≤ _; exact Nat.le_of_eq rfl) (hb hby at_66) (fun _ _ => ⟨rfl, e29, (by decide : (7 : Nat) + 0 ≤ _), (by decide : (15 : Nat) + 0 ≤ _)⟩)
      dsimp only [Pt.U, Pt.locs, Pt.cells, Pt.slots] at X30 l30 y30 z30 st30 hQ30
      subst l30 y30 z30
      obtain ⟨rfl, e30, Nq30⟩ := hQ30
      have N30 := Fr.app N29 Nq30
      refine own_tr st30 ?_
      show own_G p e below s _ _ _ (T30.setTop (mkF m 69 #[.val (Value.int x0), .val (Value.int x1), .val (Value.int x2), .val (Value.int x3), .val (Value.int (1 : Int32)), .val (Value.int ((x1 &&& (2147483647 : Int32)) % (5 : Int32))), .val (Value.ref ad18), .val (Value.int (0 : Int32))] [(Value.int (own_mm (.ref a_ATTRIBUTE) (own_kd ((x1 &&& (2147483647 : Int32)) % (5 : Int32)) a_ELEMENT a_ATTRIBUTE a_TEXT a_COMMENT a_PROCESSING_INSTRUCTION)))]))
      refine own_iload X30 hx hby at_69 rfl ?_
      show own_G p e below s _ _ _ (T30.setTop (mkF m 71 #[.val (Value.int x0), .val (Value.int x1), .val (Value.int x2), .val (Value.int x3), .val (Value.int (1 : Int32)), .val (Value.int ((x1 &&& (2147483647 : Int32)) % (5 : Int32))), .val (Value.ref ad18), .val (Value.int (0 : Int32))] [(Value.int (0 : Int32)), (Value.int (own_mm (.ref a_ATTRIBUTE) (own_kd ((x1 &&& (2147483647 : Int32)) % (5 : Int32)) a_ELEMENT a_ATTRIBUTE a_TEXT a_COMMENT a_PROCESSING_INSTRUCTION)))]))
      refine own_icmp_ne X30 hx hby at_71 (pc' := 78) (by decide) (by decide) (fun hb31 => by exfalso; exact hb31 (if_neg (fun q => hb28 (own_kd_inj_ATTRIBUTE (Fld.ne En_ELEMENT.2.2 En_ATTRIBUTE.2.2 (by decide)) (Fld.ne En_TEXT.2.2 En_ATTRIBUTE.2.2 (by decide)) (Fld.ne En_COMMENT.2.2 En_ATTRIBUTE.2.2 (by decide)) (Fld.ne En_PROCESSING_INSTRUCTION.2.2 En_ATTRIBUTE.2.2 (by decide)) q.symm).symm))) (fun hb31 => ?_)
      show own_G p e below s _ _ _ (T30.setTop (mkF m 74 #[.val (Value.int x0), .val (Value.int x1), .val (Value.int x2), .val (Value.int x3), .val (Value.int (1 : Int32)), .val (Value.int ((x1 &&& (2147483647 : Int32)) % (5 : Int32))), .val (Value.ref ad18), .val (Value.int (0 : Int32))] []))
      refine own_iconst X30 hx hby at_74 ?_
      show own_G p e below s _ _ _ (T30.setTop (mkF m 75 #[.val (Value.int x0), .val (Value.int x1), .val (Value.int x2), .val (Value.int x3), .val (Value.int (1 : Int32)), .val (Value.int ((x1 &&& (2147483647 : Int32)) % (5 : Int32))), .val (Value.ref ad18), .val (Value.int (0 : Int32))] [(Value.int (1 : Int32))]))
      refine own_goto X30 hx hby at_75 (pc' := 79) (by decide) (by decide) ?_
      show own_G p e below s _ _ _ (T30.setTop (mkF m 79 #[.val (Value.int x0), .val (Value.int x1), .val (Value.int x2), .val (Value.int x3), .val (Value.int (1 : Int32)), .val (Value.int ((x1 &&& (2147483647 : Int32)) % (5 : Int32))), .val (Value.ref ad18), .val (Value.int (0 : Int32))] [(Value.int (1 : Int32))]))
      refine own_retN X30 hx hby hlk (t := .boolean) Bd.returns (by simp) at_79 (by decide) (by decide) ?_
      exact ⟨rfl, N30⟩
    · show own_G p e below s _ _ _ (T25.setTop (mkF m 52 #[.val (Value.int x0), .val (Value.int x1), .val (Value.int x2), .val (Value.int x3), .val (Value.int (1 : Int32)), .val (Value.int ((x1 &&& (2147483647 : Int32)) % (5 : Int32))), .val (Value.ref ad18), .unset] []))
      refine own_iconst X25 hx hby at_52 ?_
      show own_G p e below s _ _ _ (T25.setTop (mkF m 53 #[.val (Value.int x0), .val (Value.int x1), .val (Value.int x2), .val (Value.int x3), .val (Value.int (1 : Int32)), .val (Value.int ((x1 &&& (2147483647 : Int32)) % (5 : Int32))), .val (Value.ref ad18), .unset] [(Value.int (1 : Int32))]))
      refine own_goto X25 hx hby at_53 (pc' := 57) (by decide) (by decide) ?_
      show own_G p e below s _ _ _ (T25.setTop (mkF m 57 #[.val (Value.int x0), .val (Value.int x1), .val (Value.int x2), .val (Value.int x3), .val (Value.int (1 : Int32)), .val (Value.int ((x1 &&& (2147483647 : Int32)) % (5 : Int32))), .val (Value.ref ad18), .unset] [(Value.int (1 : Int32))]))
      refine own_istore X25 hx hby at_57 (l' := #[.val (Value.int x0), .val (Value.int x1), .val (Value.int x2), .val (Value.int x3), .val (Value.int (1 : Int32)), .val (Value.int ((x1 &&& (2147483647 : Int32)) % (5 : Int32))), .val (Value.ref ad18), .val (Value.int (1 : Int32))]) rfl ?_
      show own_G p e below s _ _ _ (T25.setTop (mkF m 59 #[.val (Value.int x0), .val (Value.int x1), .val (Value.int x2), .val (Value.int x3), .val (Value.int (1 : Int32)), .val (Value.int ((x1 &&& (2147483647 : Int32)) % (5 : Int32))), .val (Value.ref ad18), .val (Value.int (1 : Int32))] []))
      refine own_aload X25 hx hby at_59 rfl rfl ?_
      show own_G p e below s _ _ _ (T25.setTop (mkF m 61 #[.val (Value.int x0), .val (Value.int x1), .val (Value.int x2), .val (Value.int x3), .val (Value.int (1 : Int32)), .val (Value.int ((x1 &&& (2147483647 : Int32)) % (5 : Int32))), .val (Value.ref ad18), .val (Value.int (1 : Int32))] [(Value.ref ad18)]))
      refine own_iload X25 hx hby at_61 rfl ?_
      show own_G p e below s _ _ _ (T25.setTop (mkF m 63 #[.val (Value.int x0), .val (Value.int x1), .val (Value.int x2), .val (Value.int x3), .val (Value.int (1 : Int32)), .val (Value.int ((x1 &&& (2147483647 : Int32)) % (5 : Int32))), .val (Value.ref ad18), .val (Value.int (1 : Int32))] [(Value.int ((x1 &&& (2147483647 : Int32)) % (5 : Int32))), (Value.ref ad18)]))
      obtain ⟨_, _, ⟨T32, L32, k32, n32⟩, -, X32, ⟨Lc32, hQ32, l32, y32, z32⟩, st32⟩ := Jvm.LawKit.callS X25 hx (y := (⟨"com/example/inchworm/inchworm/query/NodeTestMayMatchPinLaw", "kindOf", "(I)Lcom/example/inchworm/inchworm/label/NodeKind;"⟩ : MethodName)) hown (mvT hZ (own_w4 hw)) (mvT hZ (own_w5 hw)) (mvT hZ (own_w6 hw)) (mvT hZ (own_w7 hw)) (by decide) (backOf (W := 1) (own_rm1 l Z a0 hw [] ((x1 &&& (2147483647 : Int32)) % (5 : Int32)) a_ELEMENT a_ATTRIBUTE a_TEXT a_COMMENT a_PROCESSING_INSTRUCTION T25.heap n0 O26  En_ELEMENT En_ATTRIBUTE En_TEXT En_COMMENT En_PROCESSING_INSTRUCTION) hZ (own_w7 hw) (own_w6 hw) (by decide) (by decide)) (g := (mkF m 63 #[.val (Value.int x0), .val (Value.int x1), .val (Value.int x2), .val (Value.int x3), .val (Value.int (1 : Int32)), .val (Value.int ((x1 &&& (2147483647 : Int32)) % (5 : Int32))), .val (Value.ref ad18), .val (Value.int (1 : Int32))] [(Value.int ((x1 &&& (2147483647 : Int32)) % (5 : Int32))), (Value.ref ad18)])) rfl (by rw [hml]; rfl) (argsL := [(Value.int ((x1 &&& (2147483647 : Int32)) % (5 : Int32)))]) (rest := [(Value.ref ad18)]) (lenOf own_pd2 rfl) rfl (by show 2 * 0 + _ ≤ _; exact Nat.le_of_eq rfl) (hb hby at_63) (fun _ _ => ⟨rfl, rfl, (by decide : (7 : Nat) + 0 ≤ _), (by decide : (15 : Nat) + 0 ≤ _)⟩)
      dsimp only [Pt.U, Pt.locs, Pt.cells, Pt.slots] at X32 l32 y32 z32 st32 hQ32
      subst l32 y32 z32
      obtain ⟨rfl, e32, Nq32⟩ := hQ32
      have N32 := Fr.app N25 Nq32
      refine own_st st32 ?_
      show own_G p e below s _ _ _ (T32.setTop (mkF m 66 #[.val (Value.int x0), .val (Value.int x1), .val (Value.int x2), .val (Value.int x3), .val (Value.int (1 : Int32)), .val (Value.int ((x1 &&& (2147483647 : Int32)) % (5 : Int32))), .val (Value.ref ad18), .val (Value.int (1 : Int32))] [(own_kd ((x1 &&& (2147483647 : Int32)) % (5 : Int32)) a_ELEMENT a_ATTRIBUTE a_TEXT a_COMMENT a_PROCESSING_INSTRUCTION), (Value.ref ad18)]))
      obtain ⟨cq33, kq33, q33a, q33b, q33c⟩ := isOf (T := T32) hZ e32 Eq25
      obtain ⟨_, _, ⟨T33, L33, k33, n33⟩, -, X33, ⟨Lc33, hQ33, l33, y33, z33⟩, st33⟩ := X32.virtualBack hx (y := (⟨"com/example/inchworm/inchworm/query/NodeTest", "mayMatch", "(Lcom/example/inchworm/inchworm/label/NodeKind;)Z"⟩ : MethodName)) (z := (⟨"com/example/inchworm/inchworm/query/NodeTest", "mayMatch", "(Lcom/example/inchworm/inchworm/label/NodeKind;)Z"⟩ : MethodName)) hown (mvT hZ (own_w61 hw)) (mvT hZ (own_w62 hw)) (notFace_of_selects (args := #[]) (mvT hZ (own_w64 hw))) (mvT hZ (own_w64 hw)) (mvT hZ (own_w63 hw)) (by decide) (backOf (W := 0) (own_rmMA l Z a0 hw [] ad18 (own_kd ((x1 &&& (2147483647 : Int32)) % (5 : Int32)) a_ELEMENT a_ATTRIBUTE a_TEXT a_COMMENT a_PROCESSING_INSTRUCTION) a_ATTRIBUTE T25.heap n0 O26 (own_kd_ref _ _ _ _ _ _) Fq25_kind) hZ (own_w65 hw) (own_w3 hw) (by decide) (by decide)) q33a q33c (g := (mkF m 66 #[.val (Value.int x0), .val (Value.int x1), .val (Value.int x2), .val (Value.int x3), .val (Value.int (1 : Int32)), .val (Value.int ((x1 &&& (2147483647 : Int32)) % (5 : Int32))), .val (Value.ref ad18), .val (Value.int (1 : Int32))] [(own_kd ((x1 &&& (2147483647 : Int32)) % (5 : Int32)) a_ELEMENT a_ATTRIBUTE a_TEXT a_COMMENT a_PROCESSING_INSTRUCTION), (Value.ref ad18)])) rfl (by rw [hml]; rfl) (Steps.refl _) (argsL := [(own_kd ((x1 &&& (2147483647 : Int32)) % (5 : Int32)) a_ELEMENT a_ATTRIBUTE a_TEXT a_COMMENT a_PROCESSING_INSTRUCTION)]) (rest := []) (lenOf own_pd5 rfl) rfl (by show 2 * 0 + _ ≤ _; exact Nat.le_of_eq rfl) (hb hby at_66) (fun _ _ => ⟨rfl, e32, (by decide : (7 : Nat) + 0 ≤ _), (by decide : (15 : Nat) + 0 ≤ _)⟩)
      dsimp only [Pt.U, Pt.locs, Pt.cells, Pt.slots] at X33 l33 y33 z33 st33 hQ33
      subst l33 y33 z33
      obtain ⟨rfl, e33, Nq33⟩ := hQ33
      have N33 := Fr.app N32 Nq33
      refine own_tr st33 ?_
      show own_G p e below s _ _ _ (T33.setTop (mkF m 69 #[.val (Value.int x0), .val (Value.int x1), .val (Value.int x2), .val (Value.int x3), .val (Value.int (1 : Int32)), .val (Value.int ((x1 &&& (2147483647 : Int32)) % (5 : Int32))), .val (Value.ref ad18), .val (Value.int (1 : Int32))] [(Value.int (own_mm (.ref a_ATTRIBUTE) (own_kd ((x1 &&& (2147483647 : Int32)) % (5 : Int32)) a_ELEMENT a_ATTRIBUTE a_TEXT a_COMMENT a_PROCESSING_INSTRUCTION)))]))
      refine own_iload X33 hx hby at_69 rfl ?_
      show own_G p e below s _ _ _ (T33.setTop (mkF m 71 #[.val (Value.int x0), .val (Value.int x1), .val (Value.int x2), .val (Value.int x3), .val (Value.int (1 : Int32)), .val (Value.int ((x1 &&& (2147483647 : Int32)) % (5 : Int32))), .val (Value.ref ad18), .val (Value.int (1 : Int32))] [(Value.int (1 : Int32)), (Value.int (own_mm (.ref a_ATTRIBUTE) (own_kd ((x1 &&& (2147483647 : Int32)) % (5 : Int32)) a_ELEMENT a_ATTRIBUTE a_TEXT a_COMMENT a_PROCESSING_INSTRUCTION)))]))
      refine own_icmp_ne X33 hx hby at_71 (pc' := 78) (by decide) (by decide) (fun hb34 => by exfalso; exact hb34 (by rw [← hb28]; simp [own_mm, own_kd])) (fun hb34 => ?_)
      show own_G p e below s _ _ _ (T33.setTop (mkF m 74 #[.val (Value.int x0), .val (Value.int x1), .val (Value.int x2), .val (Value.int x3), .val (Value.int (1 : Int32)), .val (Value.int ((x1 &&& (2147483647 : Int32)) % (5 : Int32))), .val (Value.ref ad18), .val (Value.int (1 : Int32))] []))
      refine own_iconst X33 hx hby at_74 ?_
      show own_G p e below s _ _ _ (T33.setTop (mkF m 75 #[.val (Value.int x0), .val (Value.int x1), .val (Value.int x2), .val (Value.int x3), .val (Value.int (1 : Int32)), .val (Value.int ((x1 &&& (2147483647 : Int32)) % (5 : Int32))), .val (Value.ref ad18), .val (Value.int (1 : Int32))] [(Value.int (1 : Int32))]))
      refine own_goto X33 hx hby at_75 (pc' := 79) (by decide) (by decide) ?_
      show own_G p e below s _ _ _ (T33.setTop (mkF m 79 #[.val (Value.int x0), .val (Value.int x1), .val (Value.int x2), .val (Value.int x3), .val (Value.int (1 : Int32)), .val (Value.int ((x1 &&& (2147483647 : Int32)) % (5 : Int32))), .val (Value.ref ad18), .val (Value.int (1 : Int32))] [(Value.int (1 : Int32))]))
      refine own_retN X33 hx hby hlk (t := .boolean) Bd.returns (by simp) at_79 (by decide) (by decide) ?_
      exact ⟨rfl, N33⟩
  · rw [hk]
    show own_G p e below s _ _ _ (s₁.setTop (mkF m 7 #[.val (Value.int x0), .val (Value.int x1), .val (Value.int x2), .val (Value.int x3), .unset, .unset, .unset, .unset] [(Value.int (2 : Int32))]))
    refine own_istore X0 hx hby at_7 (l' := #[.val (Value.int x0), .val (Value.int x1), .val (Value.int x2), .val (Value.int x3), .val (Value.int (2 : Int32)), .unset, .unset, .unset]) rfl ?_
    show own_G p e below s _ _ _ (s₁.setTop (mkF m 9 #[.val (Value.int x0), .val (Value.int x1), .val (Value.int x2), .val (Value.int x3), .val (Value.int (2 : Int32)), .unset, .unset, .unset] []))
    refine own_iloadN X0 hx hby at_9 rfl ?_
    show own_G p e below s _ _ _ (s₁.setTop (mkF m 10 #[.val (Value.int x0), .val (Value.int x1), .val (Value.int x2), .val (Value.int x3), .val (Value.int (2 : Int32)), .unset, .unset, .unset] [(Value.int x1)]))
    refine own_ldcI X0 hx hby hZ hown (own_w0 hw) at_10 ?_
    show own_G p e below s _ _ _ (s₁.setTop (mkF m 12 #[.val (Value.int x0), .val (Value.int x1), .val (Value.int x2), .val (Value.int x3), .val (Value.int (2 : Int32)), .unset, .unset, .unset] [(Value.int (2147483647 : Int32)), (Value.int x1)]))
    refine own_iand X0 hx hby at_12 ?_
    show own_G p e below s _ _ _ (s₁.setTop (mkF m 13 #[.val (Value.int x0), .val (Value.int x1), .val (Value.int x2), .val (Value.int x3), .val (Value.int (2 : Int32)), .unset, .unset, .unset] [(Value.int (x1 &&& (2147483647 : Int32)))]))
    refine own_iconst X0 hx hby at_13 ?_
    show own_G p e below s _ _ _ (s₁.setTop (mkF m 14 #[.val (Value.int x0), .val (Value.int x1), .val (Value.int x2), .val (Value.int x3), .val (Value.int (2 : Int32)), .unset, .unset, .unset] [(Value.int (5 : Int32)), (Value.int (x1 &&& (2147483647 : Int32)))]))
    refine own_irem X0 hx hby at_14 (by decide) ?_
    show own_G p e below s _ _ _ (s₁.setTop (mkF m 15 #[.val (Value.int x0), .val (Value.int x1), .val (Value.int x2), .val (Value.int x3), .val (Value.int (2 : Int32)), .unset, .unset, .unset] [(Value.int ((x1 &&& (2147483647 : Int32)) % (5 : Int32)))]))
    refine own_istore X0 hx hby at_15 (l' := #[.val (Value.int x0), .val (Value.int x1), .val (Value.int x2), .val (Value.int x3), .val (Value.int (2 : Int32)), .val (Value.int ((x1 &&& (2147483647 : Int32)) % (5 : Int32))), .unset, .unset]) rfl ?_
    show own_G p e below s _ _ _ (s₁.setTop (mkF m 17 #[.val (Value.int x0), .val (Value.int x1), .val (Value.int x2), .val (Value.int x3), .val (Value.int (2 : Int32)), .val (Value.int ((x1 &&& (2147483647 : Int32)) % (5 : Int32))), .unset, .unset] []))
    obtain ⟨T35, h35, X35, e35, E35, A35, D35, -, st35⟩ := newO X0 hx hZ hown (own_w1 hw) (own_w2 hw) (own_w3 hw) e0 (g := (mkF m 17 #[.val (Value.int x0), .val (Value.int x1), .val (Value.int x2), .val (Value.int x3), .val (Value.int (2 : Int32)), .val (Value.int ((x1 &&& (2147483647 : Int32)) % (5 : Int32))), .unset, .unset] [])) rfl (hb hby at_17) (by decide) (by decide)
    obtain ⟨ad35, g35⟩ : ∃ z, z = h0.size := ⟨_, rfl⟩
    rw [← g35] at A35 D35 st35
    have O36 := Old.ext O0 E35
    have g35n : n0 ≤ ad35 := by rw [g35]; exact O0.1 ▸ O0.2.1
    have F35_kind : Fld Z h35 ad35 "com/example/inchworm/inchworm/query/NodeTest" "kind" "Lcom/example/inchworm/inchworm/label/NodeKind;" Value.null := D35 (Or.inr (own_w54 hw)) (ty := (.object "com/example/inchworm/inchworm/label/NodeKind")) (by decide)
    have F35_namespace : Fld Z h35 ad35 "com/example/inchworm/inchworm/query/NodeTest" "namespace" "Ljava/lang/String;" Value.null := D35 (Or.inr (own_w56 hw)) (ty := (.object "java/lang/String")) (by decide)
    have F35_name : Fld Z h35 ad35 "com/example/inchworm/inchworm/query/NodeTest" "name" "Ljava/lang/String;" Value.null := D35 (Or.inr (own_w58 hw)) (ty := (.object "java/lang/String")) (by decide)
    refine own_st st35 ?_
    show own_G p e below s _ _ _ (T35.setTop (mkF m 20 #[.val (Value.int x0), .val (Value.int x1), .val (Value.int x2), .val (Value.int x3), .val (Value.int (2 : Int32)), .val (Value.int ((x1 &&& (2147483647 : Int32)) % (5 : Int32))), .unset, .unset] [(Value.ref ad35)]))
    refine own_dup X35 hx hby at_20 rfl ?_
    show own_G p e below s _ _ _ (T35.setTop (mkF m 21 #[.val (Value.int x0), .val (Value.int x1), .val (Value.int x2), .val (Value.int x3), .val (Value.int (2 : Int32)), .val (Value.int ((x1 &&& (2147483647 : Int32)) % (5 : Int32))), .unset, .unset] [(Value.ref ad35), (Value.ref ad35)]))
    refine own_iload X35 hx hby at_21 rfl ?_
    show own_G p e below s _ _ _ (T35.setTop (mkF m 23 #[.val (Value.int x0), .val (Value.int x1), .val (Value.int x2), .val (Value.int x3), .val (Value.int (2 : Int32)), .val (Value.int ((x1 &&& (2147483647 : Int32)) % (5 : Int32))), .unset, .unset] [(Value.int (2 : Int32)), (Value.ref ad35), (Value.ref ad35)]))
    obtain ⟨_, _, ⟨T37, L37, k37, n37⟩, -, X37, ⟨Lc37, hQ37, l37, y37, z37⟩, st37⟩ := Jvm.LawKit.callS X35 hx (y := (⟨"com/example/inchworm/inchworm/query/NodeTestMayMatchPinLaw", "kindOf", "(I)Lcom/example/inchworm/inchworm/label/NodeKind;"⟩ : MethodName)) hown (mvT hZ (own_w4 hw)) (mvT hZ (own_w5 hw)) (mvT hZ (own_w6 hw)) (mvT hZ (own_w7 hw)) (by decide) (backOf (W := 2) (own_rm1 l Z a0 hw [] (2 : Int32) a_ELEMENT a_ATTRIBUTE a_TEXT a_COMMENT a_PROCESSING_INSTRUCTION h35 n0 O36  En_ELEMENT En_ATTRIBUTE En_TEXT En_COMMENT En_PROCESSING_INSTRUCTION) hZ (own_w7 hw) (own_w6 hw) (by decide) (by decide)) (g := (mkF m 23 #[.val (Value.int x0), .val (Value.int x1), .val (Value.int x2), .val (Value.int x3), .val (Value.int (2 : Int32)), .val (Value.int ((x1 &&& (2147483647 : Int32)) % (5 : Int32))), .unset, .unset] [(Value.int (2 : Int32)), (Value.ref ad35), (Value.ref ad35)])) rfl (by rw [hml]; rfl) (argsL := [(Value.int (2 : Int32))]) (rest := [(Value.ref ad35), (Value.ref ad35)]) (lenOf own_pd2 rfl) rfl (by show 2 * 0 + _ ≤ _; exact Nat.le_of_eq rfl) (hb hby at_23) (fun _ _ => ⟨rfl, e35, (by decide : (1 : Nat) + 0 ≤ _), (by decide : (3 : Nat) + 0 ≤ _)⟩)
    dsimp only [Pt.U, Pt.locs, Pt.cells, Pt.slots] at X37 l37 y37 z37 st37 hQ37
    subst l37 y37 z37
    obtain ⟨rfl, e37, Nq37⟩ := hQ37
    have N37 := Fr.app N0 Nq37
    refine own_st st37 ?_
    show own_G p e below s _ _ _ (T37.setTop (mkF m 26 #[.val (Value.int x0), .val (Value.int x1), .val (Value.int x2), .val (Value.int x3), .val (Value.int (2 : Int32)), .val (Value.int ((x1 &&& (2147483647 : Int32)) % (5 : Int32))), .unset, .unset] [(own_kd (2 : Int32) a_ELEMENT a_ATTRIBUTE a_TEXT a_COMMENT a_PROCESSING_INSTRUCTION), (Value.ref ad35), (Value.ref ad35)]))
    rw [show (own_kd (2 : Int32) a_ELEMENT a_ATTRIBUTE a_TEXT a_COMMENT a_PROCESSING_INSTRUCTION) = (Value.ref a_TEXT) from by simp [own_kd]]
    refine own_iloadN X37 hx hby at_26 rfl ?_
    show own_G p e below s _ _ _ (T37.setTop (mkF m 27 #[.val (Value.int x0), .val (Value.int x1), .val (Value.int x2), .val (Value.int x3), .val (Value.int (2 : Int32)), .val (Value.int ((x1 &&& (2147483647 : Int32)) % (5 : Int32))), .unset, .unset] [(Value.int x2), (Value.ref a_TEXT), (Value.ref ad35), (Value.ref ad35)]))
    obtain ⟨_, _, ⟨T38, L38, k38, n38⟩, -, X38, ⟨Lc38, hQ38, l38, y38, z38⟩, st38⟩ := Jvm.LawKit.callS X37 hx (y := (⟨"com/example/inchworm/inchworm/query/NodeTestMayMatchPinLaw", "drawn", "(I)Ljava/lang/String;"⟩ : MethodName)) hown (mvT hZ (own_w11 hw)) (mvT hZ (own_w12 hw)) (mvT hZ (own_w6 hw)) (mvT hZ (own_w13 hw)) (by decide) (backOf (W := 3) (own_rm2 l Z a0 hw [] x2 G1 h35 n0 O36  hO2 hP3) hZ (own_w13 hw) (own_w6 hw) (by decide) (by decide)) (g := (mkF m 27 #[.val (Value.int x0), .val (Value.int x1), .val (Value.int x2), .val (Value.int x3), .val (Value.int (2 : Int32)), .val (Value.int ((x1 &&& (2147483647 : Int32)) % (5 : Int32))), .unset, .unset] [(Value.int x2), (Value.ref a_TEXT), (Value.ref ad35), (Value.ref ad35)])) rfl (by rw [hml]; rfl) (argsL := [(Value.int x2)]) (rest := [(Value.ref a_TEXT), (Value.ref ad35), (Value.ref ad35)]) (lenOf own_pd3 rfl) rfl (by show 2 * 0 + _ ≤ _; exact Nat.le_of_eq rfl) (hb hby at_27) (fun _ _ => ⟨rfl, e37, (by decide : (1 : Nat) + 3 ≤ _), (by decide : (3 : Nat) + 6 ≤ _)⟩)
    dsimp only [Pt.U, Pt.locs, Pt.cells, Pt.slots] at X38 l38 y38 z38 st38 hQ38
    subst l38 y38 z38
    obtain ⟨r38, rfl, hr38, Nq38, Kq38⟩ := hQ38
    have N38 := Fr.app N37 Nq38
    have F39_ad35_kind := Fld.keep F35_kind Kq38 nin0
    have F39_ad35_namespace := Fld.keep F35_namespace Kq38 nin0
    have F39_ad35_name := Fld.keep F35_name Kq38 nin0
    have E39_ad35 := Exa.keep A35 Kq38
    have O39 := Old.keep O36 Kq38 all0
    refine own_st st38 ?_
    show own_G p e below s _ _ _ (T38.setTop (mkF m 30 #[.val (Value.int x0), .val (Value.int x1), .val (Value.int x2), .val (Value.int x3), .val (Value.int (2 : Int32)), .val (Value.int ((x1 &&& (2147483647 : Int32)) % (5 : Int32))), .unset, .unset] [r38, (Value.ref a_TEXT), (Value.ref ad35), (Value.ref ad35)]))
    refine own_iloadN X38 hx hby at_30 rfl ?_
    show own_G p e below s _ _ _ (T38.setTop (mkF m 31 #[.val (Value.int x0), .val (Value.int x1), .val (Value.int x2), .val (Value.int x3), .val (Value.int (2 : Int32)), .val (Value.int ((x1 &&& (2147483647 : Int32)) % (5 : Int32))), .unset, .unset] [(Value.int x3), r38, (Value.ref a_TEXT), (Value.ref ad35), (Value.ref ad35)]))
    obtain ⟨_, _, ⟨T40, L40, k40, n40⟩, -, X40, ⟨Lc40, hQ40, l40, y40, z40⟩, st40⟩ := Jvm.LawKit.callS X38 hx (y := (⟨"com/example/inchworm/inchworm/query/NodeTestMayMatchPinLaw", "drawn", "(I)Ljava/lang/String;"⟩ : MethodName)) hown (mvT hZ (own_w11 hw)) (mvT hZ (own_w12 hw)) (mvT hZ (own_w6 hw)) (mvT hZ (own_w13 hw)) (by decide) (backOf (W := 4) (own_rm2 l Z a0 hw [] x3 G1 T38.heap n0 O39  hO2 hP3) hZ (own_w13 hw) (own_w6 hw) (by decide) (by decide)) (g := (mkF m 31 #[.val (Value.int x0), .val (Value.int x1), .val (Value.int x2), .val (Value.int x3), .val (Value.int (2 : Int32)), .val (Value.int ((x1 &&& (2147483647 : Int32)) % (5 : Int32))), .unset, .unset] [(Value.int x3), r38, (Value.ref a_TEXT), (Value.ref ad35), (Value.ref ad35)])) rfl (by rw [hml]; rfl) (argsL := [(Value.int x3)]) (rest := [r38, (Value.ref a_TEXT), (Value.ref ad35), (Value.ref ad35)]) (lenOf own_pd3 rfl) rfl (by simp only [List.map_cons, List.map_nil, List.sum_cons, List.sum_nil, own_catR hr38]; exact Nat.le_of_eq rfl) (hb hby at_31) (fun _ _ => ⟨rfl, rfl, (by decide : (4 : Nat) + 3 ≤ _), (by decide : (9 : Nat) + 6 ≤ _)⟩)
    dsimp only [Pt.U, Pt.locs, Pt.cells, Pt.slots] at X40 l40 y40 z40 st40 hQ40
    subst l40 y40 z40
    obtain ⟨r40, rfl, hr40, Nq40, Kq40⟩ := hQ40
    have N40 := Fr.app N38 Nq40
    have F41_ad35_kind := Fld.keep F39_ad35_kind Kq40 nin0
    have F41_ad35_namespace := Fld.keep F39_ad35_namespace Kq40 nin0
    have F41_ad35_name := Fld.keep F39_ad35_name Kq40 nin0
    have E41_ad35 := Exa.keep E39_ad35 Kq40
    have O41 := Old.keep O39 Kq40 all0
    refine own_st st40 ?_
    show own_G p e below s _ _ _ (T40.setTop (mkF m 34 #[.val (Value.int x0), .val (Value.int x1), .val (Value.int x2), .val (Value.int x3), .val (Value.int (2 : Int32)), .val (Value.int ((x1 &&& (2147483647 : Int32)) % (5 : Int32))), .unset, .unset] [r40, r38, (Value.ref a_TEXT), (Value.ref ad35), (Value.ref ad35)]))
    obtain ⟨_, _, ⟨T42, L42, k42, n42⟩, -, X42, ⟨Lc42, hQ42, l42, y42, z42⟩, st42⟩ := X40.specialBack hx (y := (⟨"com/example/inchworm/inchworm/query/NodeTest", "<init>", "(Lcom/example/inchworm/inchworm/label/NodeKind;Ljava/lang/String;Ljava/lang/String;)V"⟩ : MethodName)) rfl hown (mvT hZ (own_w44 hw)) (mvT hZ (own_w45 hw)) (mvT hZ (own_w46 hw)) (by decide) (backOf (W := 1) (own_rmTA l Z a0 hw [] ad35 a_TEXT r38 r40  T40.heap n0 O41 hr38 hr40 E41_ad35 F41_ad35_kind F41_ad35_namespace F41_ad35_name g35n) hZ (own_w46 hw) (own_w3 hw) (by decide) (by decide)) (g := (mkF m 34 #[.val (Value.int x0), .val (Value.int x1), .val (Value.int x2), .val (Value.int x3), .val (Value.int (2 : Int32)), .val (Value.int ((x1 &&& (2147483647 : Int32)) % (5 : Int32))), .unset, .unset] [r40, r38, (Value.ref a_TEXT), (Value.ref ad35), (Value.ref ad35)])) rfl (by rw [hml]; rfl) (Steps.refl _) (a := ad35) (argsL := [(Value.ref a_TEXT), r38, r40]) (rest := [(Value.ref ad35)]) (lenOf own_pd4 rfl) rfl (by show 2 * 0 + _ ≤ _; exact Nat.le_of_eq rfl) (hb hby at_34) (fun _ _ => ⟨rfl, rfl, (by decide : (7 : Nat) + 0 ≤ _), (by decide : (15 : Nat) + 0 ≤ _)⟩)
    dsimp only [Pt.U, Pt.locs, Pt.cells, Pt.slots] at X42 l42 y42 z42 st42 hQ42
    subst l42 y42 z42
    obtain ⟨rfl, Nq42, Kq42, Eq42, Fq42_kind, Fq42_namespace, Fq42_name⟩ := hQ42
    have N42 := Fr.app N40 Nq42
    have E43_ad35 := Exa.keep E41_ad35 Kq42
    have O43 := Old.keep O41 Kq42 (allS g35n all0)
    refine own_tr st42 ?_
    show own_G p e below s _ _ _ (T42.setTop (mkF m 37 #[.val (Value.int x0), .val (Value.int x1), .val (Value.int x2), .val (Value.int x3), .val (Value.int (2 : Int32)), .val (Value.int ((x1 &&& (2147483647 : Int32)) % (5 : Int32))), .unset, .unset] [(Value.ref ad35)]))
    refine own_astore X42 hx hby at_37 rfl (l' := #[.val (Value.int x0), .val (Value.int x1), .val (Value.int x2), .val (Value.int x3), .val (Value.int (2 : Int32)), .val (Value.int ((x1 &&& (2147483647 : Int32)) % (5 : Int32))), .val (Value.ref ad35), .unset]) rfl ?_
    show own_G p e below s _ _ _ (T42.setTop (mkF m 39 #[.val (Value.int x0), .val (Value.int x1), .val (Value.int x2), .val (Value.int x3), .val (Value.int (2 : Int32)), .val (Value.int ((x1 &&& (2147483647 : Int32)) % (5 : Int32))), .val (Value.ref ad35), .unset] []))
    refine own_iload X42 hx hby at_39 rfl ?_
    show own_G p e below s _ _ _ (T42.setTop (mkF m 41 #[.val (Value.int x0), .val (Value.int x1), .val (Value.int x2), .val (Value.int x3), .val (Value.int (2 : Int32)), .val (Value.int ((x1 &&& (2147483647 : Int32)) % (5 : Int32))), .val (Value.ref ad35), .unset] [(Value.int (2 : Int32))]))
    refine own_iconst X42 hx hby at_41 ?_
    show own_G p e below s _ _ _ (T42.setTop (mkF m 42 #[.val (Value.int x0), .val (Value.int x1), .val (Value.int x2), .val (Value.int x3), .val (Value.int (2 : Int32)), .val (Value.int ((x1 &&& (2147483647 : Int32)) % (5 : Int32))), .val (Value.ref ad35), .unset] [(Value.int (5 : Int32)), (Value.int (2 : Int32))]))
    refine own_icmp_eq X42 hx hby at_42 (pc' := 52) (by decide) (by decide) (fun hb44 => by exfalso; revert hb44; decide) (fun hb44 => ?_)
    show own_G p e below s _ _ _ (T42.setTop (mkF m 45 #[.val (Value.int x0), .val (Value.int x1), .val (Value.int x2), .val (Value.int x3), .val (Value.int (2 : Int32)), .val (Value.int ((x1 &&& (2147483647 : Int32)) % (5 : Int32))), .val (Value.ref ad35), .unset] []))
    refine own_iload X42 hx hby at_45 rfl ?_
    show own_G p e below s _ _ _ (T42.setTop (mkF m 47 #[.val (Value.int x0), .val (Value.int x1), .val (Value.int x2), .val (Value.int x3), .val (Value.int (2 : Int32)), .val (Value.int ((x1 &&& (2147483647 : Int32)) % (5 : Int32))), .val (Value.ref ad35), .unset] [(Value.int (2 : Int32))]))
    refine own_iload X42 hx hby at_47 rfl ?_
    show own_G p e below s _ _ _ (T42.setTop (mkF m 49 #[.val (Value.int x0), .val (Value.int x1), .val (Value.int x2), .val (Value.int x3), .val (Value.int (2 : Int32)), .val (Value.int ((x1 &&& (2147483647 : Int32)) % (5 : Int32))), .val (Value.ref ad35), .unset] [(Value.int ((x1 &&& (2147483647 : Int32)) % (5 : Int32))), (Value.int (2 : Int32))]))
    refine own_icmp_ne X42 hx hby at_49 (pc' := 56) (by decide) (by decide) (fun hb45 => ?_) (fun hb45 => ?_)
    · show own_G p e below s _ _ _ (T42.setTop (mkF m 56 #[.val (Value.int x0), .val (Value.int x1), .val (Value.int x2), .val (Value.int x3), .val (Value.int (2 : Int32)), .val (Value.int ((x1 &&& (2147483647 : Int32)) % (5 : Int32))), .val (Value.ref ad35), .unset] []))
      refine own_iconst X42 hx hby at_56 ?_
      show own_G p e below s _ _ _ (T42.setTop (mkF m 57 #[.val (Value.int x0), .val (Value.int x1), .val (Value.int x2), .val (Value.int x3), .val (Value.int (2 : Int32)), .val (Value.int ((x1 &&& (2147483647 : Int32)) % (5 : Int32))), .val (Value.ref ad35), .unset] [(Value.int (0 : Int32))]))
      refine own_istore X42 hx hby at_57 (l' := #[.val (Value.int x0), .val (Value.int x1), .val (Value.int x2), .val (Value.int x3), .val (Value.int (2 : Int32)), .val (Value.int ((x1 &&& (2147483647 : Int32)) % (5 : Int32))), .val (Value.ref ad35), .val (Value.int (0 : Int32))]) rfl ?_
      show own_G p e below s _ _ _ (T42.setTop (mkF m 59 #[.val (Value.int x0), .val (Value.int x1), .val (Value.int x2), .val (Value.int x3), .val (Value.int (2 : Int32)), .val (Value.int ((x1 &&& (2147483647 : Int32)) % (5 : Int32))), .val (Value.ref ad35), .val (Value.int (0 : Int32))] []))
      refine own_aload X42 hx hby at_59 rfl rfl ?_
      show own_G p e below s _ _ _ (T42.setTop (mkF m 61 #[.val (Value.int x0), .val (Value.int x1), .val (Value.int x2), .val (Value.int x3), .val (Value.int (2 : Int32)), .val (Value.int ((x1 &&& (2147483647 : Int32)) % (5 : Int32))), .val (Value.ref ad35), .val (Value.int (0 : Int32))] [(Value.ref ad35)]))
      refine own_iload X42 hx hby at_61 rfl ?_
      show own_G p e below s _ _ _ (T42.setTop (mkF m 63 #[.val (Value.int x0), .val (Value.int x1), .val (Value.int x2), .val (Value.int x3), .val (Value.int (2 : Int32)), .val (Value.int ((x1 &&& (2147483647 : Int32)) % (5 : Int32))), .val (Value.ref ad35), .val (Value.int (0 : Int32))] [(Value.int ((x1 &&& (2147483647 : Int32)) % (5 : Int32))), (Value.ref ad35)]))
      obtain ⟨_, _, ⟨T46, L46, k46, n46⟩, -, X46, ⟨Lc46, hQ46, l46, y46, z46⟩, st46⟩ := Jvm.LawKit.callS X42 hx (y := (⟨"com/example/inchworm/inchworm/query/NodeTestMayMatchPinLaw", "kindOf", "(I)Lcom/example/inchworm/inchworm/label/NodeKind;"⟩ : MethodName)) hown (mvT hZ (own_w4 hw)) (mvT hZ (own_w5 hw)) (mvT hZ (own_w6 hw)) (mvT hZ (own_w7 hw)) (by decide) (backOf (W := 1) (own_rm1 l Z a0 hw [] ((x1 &&& (2147483647 : Int32)) % (5 : Int32)) a_ELEMENT a_ATTRIBUTE a_TEXT a_COMMENT a_PROCESSING_INSTRUCTION T42.heap n0 O43  En_ELEMENT En_ATTRIBUTE En_TEXT En_COMMENT En_PROCESSING_INSTRUCTION) hZ (own_w7 hw) (own_w6 hw) (by decide) (by decide)) (g := (mkF m 63 #[.val (Value.int x0), .val (Value.int x1), .val (Value.int x2), .val (Value.int x3), .val (Value.int (2 : Int32)), .val (Value.int ((x1 &&& (2147483647 : Int32)) % (5 : Int32))), .val (Value.ref ad35), .val (Value.int (0 : Int32))] [(Value.int ((x1 &&& (2147483647 : Int32)) % (5 : Int32))), (Value.ref ad35)])) rfl (by rw [hml]; rfl) (argsL := [(Value.int ((x1 &&& (2147483647 : Int32)) % (5 : Int32)))]) (rest := [(Value.ref ad35)]) (lenOf own_pd2 rfl) rfl (by show 2 * 0 + _ ≤ _; exact Nat.le_of_eq rfl) (hb hby at_63) (fun _ _ => ⟨rfl, rfl, (by decide : (7 : Nat) + 0 ≤ _), (by decide : (15 : Nat) + 0 ≤ _)⟩)
      dsimp only [Pt.U, Pt.locs, Pt.cells, Pt.slots] at X46 l46 y46 z46 st46 hQ46
      subst l46 y46 z46
      obtain ⟨rfl, e46, Nq46⟩ := hQ46
      have N46 := Fr.app N42 Nq46
      refine own_st st46 ?_
      show own_G p e below s _ _ _ (T46.setTop (mkF m 66 #[.val (Value.int x0), .val (Value.int x1), .val (Value.int x2), .val (Value.int x3), .val (Value.int (2 : Int32)), .val (Value.int ((x1 &&& (2147483647 : Int32)) % (5 : Int32))), .val (Value.ref ad35), .val (Value.int (0 : Int32))] [(own_kd ((x1 &&& (2147483647 : Int32)) % (5 : Int32)) a_ELEMENT a_ATTRIBUTE a_TEXT a_COMMENT a_PROCESSING_INSTRUCTION), (Value.ref ad35)]))
      obtain ⟨cq47, kq47, q47a, q47b, q47c⟩ := isOf (T := T46) hZ e46 Eq42
      obtain ⟨_, _, ⟨T47, L47, k47, n47⟩, -, X47, ⟨Lc47, hQ47, l47, y47, z47⟩, st47⟩ := X46.virtualBack hx (y := (⟨"com/example/inchworm/inchworm/query/NodeTest", "mayMatch", "(Lcom/example/inchworm/inchworm/label/NodeKind;)Z"⟩ : MethodName)) (z := (⟨"com/example/inchworm/inchworm/query/NodeTest", "mayMatch", "(Lcom/example/inchworm/inchworm/label/NodeKind;)Z"⟩ : MethodName)) hown (mvT hZ (own_w61 hw)) (mvT hZ (own_w62 hw)) (notFace_of_selects (args := #[]) (mvT hZ (own_w64 hw))) (mvT hZ (own_w64 hw)) (mvT hZ (own_w63 hw)) (by decide) (backOf (W := 0) (own_rmMA l Z a0 hw [] ad35 (own_kd ((x1 &&& (2147483647 : Int32)) % (5 : Int32)) a_ELEMENT a_ATTRIBUTE a_TEXT a_COMMENT a_PROCESSING_INSTRUCTION) a_TEXT T42.heap n0 O43 (own_kd_ref _ _ _ _ _ _) Fq42_kind) hZ (own_w65 hw) (own_w3 hw) (by decide) (by decide)) q47a q47c (g := (mkF m 66 #[.val (Value.int x0), .val (Value.int x1), .val (Value.int x2), .val (Value.int x3), .val (Value.int (2 : Int32)), .val (Value.int ((x1 &&& (2147483647 : Int32)) % (5 : Int32))), .val (Value.ref ad35), .val (Value.int (0 : Int32))] [(own_kd ((x1 &&& (2147483647 : Int32)) % (5 : Int32)) a_ELEMENT a_ATTRIBUTE a_TEXT a_COMMENT a_PROCESSING_INSTRUCTION), (Value.ref ad35)])) rfl (by rw [hml]; rfl) (Steps.refl _) (argsL := [(own_kd ((x1 &&& (2147483647 : Int32)) % (5 : Int32)) a_ELEMENT a_ATTRIBUTE a_TEXT a_COMMENT a_PROCESSING_INSTRUCTION)]) (rest := []) (lenOf own_pd5 rfl) rfl (by show 2 * 0 + _ ≤ _; exact Nat.le_of_eq rfl) (hb hby at_66) (fun _ _ => ⟨rfl, e46, (by decide : (7 : Nat) + 0 ≤ _), (by decide : (15 : Nat) + 0 ≤ _)⟩)
      dsimp only [Pt.U, Pt.locs, Pt.cells, Pt.slots] at X47 l47 y47 z47 st47 hQ47
      subst l47 y47 z47
      obtain ⟨rfl, e47, Nq47⟩ := hQ47
      have N47 := Fr.app N46 Nq47
      refine own_tr st47 ?_
      show own_G p e below s _ _ _ (T47.setTop (mkF m 69 #[.val (Value.int x0), .val (Value.int x1), .val (Value.int x2), .val (Value.int x3), .val (Value.int (2 : Int32)), .val (Value.int ((x1 &&& (2147483647 : Int32)) % (5 : Int32))), .val (Value.ref ad35), .val (Value.int (0 : Int32))] [(Value.int (own_mm (.ref a_TEXT) (own_kd ((x1 &&& (2147483647 : Int32)) % (5 : Int32)) a_ELEMENT a_ATTRIBUTE a_TEXT a_COMMENT a_PROCESSING_INSTRUCTION)))]))
      refine own_iload X47 hx hby at_69 rfl ?_
      show own_G p e below s _ _ _ (T47.setTop (mkF m 71 #[.val (Value.int x0), .val (Value.int x1), .val (Value.int x2), .val (Value.int x3), .val (Value.int (2 : Int32)), .val (Value.int ((x1 &&& (2147483647 : Int32)) % (5 : Int32))), .val (Value.ref ad35), .val (Value.int (0 : Int32))] [(Value.int (0 : Int32)), (Value.int (own_mm (.ref a_TEXT) (own_kd ((x1 &&& (2147483647 : Int32)) % (5 : Int32)) a_ELEMENT a_ATTRIBUTE a_TEXT a_COMMENT a_PROCESSING_INSTRUCTION)))]))
      refine own_icmp_ne X47 hx hby at_71 (pc' := 78) (by decide) (by decide) (fun hb48 => by exfalso; exact hb48 (if_neg (fun q => hb45 (own_kd_inj_TEXT (Fld.ne En_ELEMENT.2.2 En_TEXT.2.2 (by decide)) (Fld.ne En_ATTRIBUTE.2.2 En_TEXT.2.2 (by decide)) (Fld.ne En_COMMENT.2.2 En_TEXT.2.2 (by decide)) (Fld.ne En_PROCESSING_INSTRUCTION.2.2 En_TEXT.2.2 (by decide)) q.symm).symm))) (fun hb48 => ?_)
      show own_G p e below s _ _ _ (T47.setTop (mkF m 74 #[.val (Value.int x0), .val (Value.int x1), .val (Value.int x2), .val (Value.int x3), .val (Value.int (2 : Int32)), .val (Value.int ((x1 &&& (2147483647 : Int32)) % (5 : Int32))), .val (Value.ref ad35), .val (Value.int (0 : Int32))] []))
      refine own_iconst X47 hx hby at_74 ?_
      show own_G p e below s _ _ _ (T47.setTop (mkF m 75 #[.val (Value.int x0), .val (Value.int x1), .val (Value.int x2), .val (Value.int x3), .val (Value.int (2 : Int32)), .val (Value.int ((x1 &&& (2147483647 : Int32)) % (5 : Int32))), .val (Value.ref ad35), .val (Value.int (0 : Int32))] [(Value.int (1 : Int32))]))
      refine own_goto X47 hx hby at_75 (pc' := 79) (by decide) (by decide) ?_
      show own_G p e below s _ _ _ (T47.setTop (mkF m 79 #[.val (Value.int x0), .val (Value.int x1), .val (Value.int x2), .val (Value.int x3), .val (Value.int (2 : Int32)), .val (Value.int ((x1 &&& (2147483647 : Int32)) % (5 : Int32))), .val (Value.ref ad35), .val (Value.int (0 : Int32))] [(Value.int (1 : Int32))]))
      refine own_retN X47 hx hby hlk (t := .boolean) Bd.returns (by simp) at_79 (by decide) (by decide) ?_
      exact ⟨rfl, N47⟩
    · show own_G p e below s _ _ _ (T42.setTop (mkF m 52 #[.val (Value.int x0), .val (Value.int x1), .val (Value.int x2), .val (Value.int x3), .val (Value.int (2 : Int32)), .val (Value.int ((x1 &&& (2147483647 : Int32)) % (5 : Int32))), .val (Value.ref ad35), .unset] []))
      refine own_iconst X42 hx hby at_52 ?_
      show own_G p e below s _ _ _ (T42.setTop (mkF m 53 #[.val (Value.int x0), .val (Value.int x1), .val (Value.int x2), .val (Value.int x3), .val (Value.int (2 : Int32)), .val (Value.int ((x1 &&& (2147483647 : Int32)) % (5 : Int32))), .val (Value.ref ad35), .unset] [(Value.int (1 : Int32))]))
      refine own_goto X42 hx hby at_53 (pc' := 57) (by decide) (by decide) ?_
      show own_G p e below s _ _ _ (T42.setTop (mkF m 57 #[.val (Value.int x0), .val (Value.int x1), .val (Value.int x2), .val (Value.int x3), .val (Value.int (2 : Int32)), .val (Value.int ((x1 &&& (2147483647 : Int32)) % (5 : Int32))), .val (Value.ref ad35), .unset] [(Value.int (1 : Int32))]))
      refine own_istore X42 hx hby at_57 (l' := #[.val (Value.int x0), .val (Value.int x1), .val (Value.int x2), .val (Value.int x3), .val (Value.int (2 : Int32)), .val (Value.int ((x1 &&& (2147483647 : Int32)) % (5 : Int32))), .val (Value.ref ad35), .val (Value.int (1 : Int32))]) rfl ?_
      show own_G p e below s _ _ _ (T42.setTop (mkF m 59 #[.val (Value.int x0), .val (Value.int x1), .val (Value.int x2), .val (Value.int x3), .val (Value.int (2 : Int32)), .val (Value.int ((x1 &&& (2147483647 : Int32)) % (5 : Int32))), .val (Value.ref ad35), .val (Value.int (1 : Int32))] []))
      refine own_aload X42 hx hby at_59 rfl rfl ?_
      show own_G p e below s _ _ _ (T42.setTop (mkF m 61 #[.val (Value.int x0), .val (Value.int x1), .val (Value.int x2), .val (Value.int x3), .val (Value.int (2 : Int32)), .val (Value.int ((x1 &&& (2147483647 : Int32)) % (5 : Int32))), .val (Value.ref ad35), .val (Value.int (1 : Int32))] [(Value.ref ad35)]))
      refine own_iload X42 hx hby at_61 rfl ?_
      show own_G p e below s _ _ _ (T42.setTop (mkF m 63 #[.val (Value.int x0), .val (Value.int x1), .val (Value.int x2), .val (Value.int x3), .val (Value.int (2 : Int32)), .val (Value.int ((x1 &&& (2147483647 : Int32)) % (5 : Int32))), .val (Value.ref ad35), .val (Value.int (1 : Int32))] [(Value.int ((x1 &&& (2147483647 : Int32)) % (5 : Int32))), (Value.ref ad35)]))
      obtain ⟨_, _, ⟨T49, L49, k49, n49⟩, -, X49, ⟨Lc49, hQ49, l49, y49, z49⟩, st49⟩ := Jvm.LawKit.callS X42 hx (y := (⟨"com/example/inchworm/inchworm/query/NodeTestMayMatchPinLaw", "kindOf", "(I)Lcom/example/inchworm/inchworm/label/NodeKind;"⟩ : MethodName)) hown (mvT hZ (own_w4 hw)) (mvT hZ (own_w5 hw)) (mvT hZ (own_w6 hw)) (mvT hZ (own_w7 hw)) (by decide) (backOf (W := 1) (own_rm1 l Z a0 hw [] ((x1 &&& (2147483647 : Int32)) % (5 : Int32)) a_ELEMENT a_ATTRIBUTE a_TEXT a_COMMENT a_PROCESSING_INSTRUCTION T42.heap n0 O43  En_ELEMENT En_ATTRIBUTE En_TEXT En_COMMENT En_PROCESSING_INSTRUCTION) hZ (own_w7 hw) (own_w6 hw) (by decide) (by decide)) (g := (mkF m 63 #[.val (Value.int x0), .val (Value.int x1), .val (Value.int x2), .val (Value.int x3), .val (Value.int (2 : Int32)), .val (Value.int ((x1 &&& (2147483647 : Int32)) % (5 : Int32))), .val (Value.ref ad35), .val (Value.int (1 : Int32))] [(Value.int ((x1 &&& (2147483647 : Int32)) % (5 : Int32))), (Value.ref ad35)])) rfl (by rw [hml]; rfl) (argsL := [(Value.int ((x1 &&& (2147483647 : Int32)) % (5 : Int32)))]) (rest := [(Value.ref ad35)]) (lenOf own_pd2 rfl) rfl (by show 2 * 0 + _ ≤ _; exact Nat.le_of_eq rfl) (hb hby at_63) (fun _ _ => ⟨rfl, rfl, (by decide : (7 : Nat) + 0 ≤ _), (by decide : (15 : Nat) + 0 ≤ _)⟩)
      dsimp only [Pt.U, Pt.locs, Pt.cells, Pt.slots] at X49 l49 y49 z49 st49 hQ49
      subst l49 y49 z49
      obtain ⟨rfl, e49, Nq49⟩ := hQ49
      have N49 := Fr.app N42 Nq49
      refine own_st st49 ?_
      show own_G p e below s _ _ _ (T49.setTop (mkF m 66 #[.val (Value.int x0), .val (Value.int x1), .val (Value.int x2), .val (Value.int x3), .val (Value.int (2 : Int32)), .val (Value.int ((x1 &&& (2147483647 : Int32)) % (5 : Int32))), .val (Value.ref ad35), .val (Value.int (1 : Int32))] [(own_kd ((x1 &&& (2147483647 : Int32)) % (5 : Int32)) a_ELEMENT a_ATTRIBUTE a_TEXT a_COMMENT a_PROCESSING_INSTRUCTION), (Value.ref ad35)]))
      obtain ⟨cq50, kq50, q50a, q50b, q50c⟩ := isOf (T := T49) hZ e49 Eq42
      obtain ⟨_, _, ⟨T50, L50, k50, n50⟩, -, X50, ⟨Lc50, hQ50, l50, y50, z50⟩, st50⟩ := X49.virtualBack hx (y := (⟨"com/example/inchworm/inchworm/query/NodeTest", "mayMatch", "(Lcom/example/inchworm/inchworm/label/NodeKind;)Z"⟩ : MethodName)) (z := (⟨"com/example/inchworm/inchworm/query/NodeTest", "mayMatch", "(Lcom/example/inchworm/inchworm/label/NodeKind;)Z"⟩ : MethodName)) hown (mvT hZ (own_w61 hw)) (mvT hZ (own_w62 hw)) (notFace_of_selects (args := #[]) (mvT hZ (own_w64 hw))) (mvT hZ (own_w64 hw)) (mvT hZ (own_w63 hw)) (by decide) (backOf (W := 0) (own_rmMA l Z a0 hw [] ad35 (own_kd ((x1 &&& (2147483647 : Int32)) % (5 : Int32)) a_ELEMENT a_ATTRIBUTE a_TEXT a_COMMENT a_PROCESSING_INSTRUCTION) a_TEXT T42.heap n0 O43 (own_kd_ref _ _ _ _ _ _) Fq42_kind) hZ (own_w65 hw) (own_w3 hw) (by decide) (by decide)) q50a q50c (g := (mkF m 66 #[.val (Value.int x0), .val (Value.int x1), .val (Value.int x2), .val (Value.int x3), .val (Value.int (2 : Int32)), .val (Value.int ((x1 &&& (2147483647 : Int32)) % (5 : Int32))), .val (Value.ref ad35), .val (Value.int (1 : Int32))] [(own_kd ((x1 &&& (2147483647 : Int32)) % (5 : Int32)) a_ELEMENT a_ATTRIBUTE a_TEXT a_COMMENT a_PROCESSING_INSTRUCTION), (Value.ref ad35)])) rfl (by rw [hml]; rfl) (Steps.refl _) (argsL := [(own_kd ((x1 &&& (2147483647 : Int32)) % (5 : Int32)) a_ELEMENT a_ATTRIBUTE a_TEXT a_COMMENT a_PROCESSING_INSTRUCTION)]) (rest := []) (lenOf own_pd5 rfl) rfl (by show 2 * 0 + _ ≤ _; exact Nat.le_of_eq rfl) (hb hby at_66) (fun _ _ => ⟨rfl, e49, (by decide : (7 : Nat) + 0 ≤ _), (by decide : (15 : Nat) + 0 ≤ _)⟩)
      dsimp only [Pt.U, Pt.locs, Pt.cells, Pt.slots] at X50 l50 y50 z50 st50 hQ50
      subst l50 y50 z50
      obtain ⟨rfl, e50, Nq50⟩ := hQ50
      have N50 := Fr.app N49 Nq50
      refine own_tr st50 ?_
      show own_G p e below s _ _ _ (T50.setTop (mkF m 69 #[.val (Value.int x0), .val (Value.int x1), .val (Value.int x2), .val (Value.int x3), .val (Value.int (2 : Int32)), .val (Value.int ((x1 &&& (2147483647 : Int32)) % (5 : Int32))), .val (Value.ref ad35), .val (Value.int (1 : Int32))] [(Value.int (own_mm (.ref a_TEXT) (own_kd ((x1 &&& (2147483647 : Int32)) % (5 : Int32)) a_ELEMENT a_ATTRIBUTE a_TEXT a_COMMENT a_PROCESSING_INSTRUCTION)))]))
      refine own_iload X50 hx hby at_69 rfl ?_
      show own_G p e below s _ _ _ (T50.setTop (mkF m 71 #[.val (Value.int x0), .val (Value.int x1), .val (Value.int x2), .val (Value.int x3), .val (Value.int (2 : Int32)), .val (Value.int ((x1 &&& (2147483647 : Int32)) % (5 : Int32))), .val (Value.ref ad35), .val (Value.int (1 : Int32))] [(Value.int (1 : Int32)), (Value.int (own_mm (.ref a_TEXT) (own_kd ((x1 &&& (2147483647 : Int32)) % (5 : Int32)) a_ELEMENT a_ATTRIBUTE a_TEXT a_COMMENT a_PROCESSING_INSTRUCTION)))]))
      refine own_icmp_ne X50 hx hby at_71 (pc' := 78) (by decide) (by decide) (fun hb51 => by exfalso; exact hb51 (by rw [← hb45]; simp [own_mm, own_kd])) (fun hb51 => ?_)
      show own_G p e below s _ _ _ (T50.setTop (mkF m 74 #[.val (Value.int x0), .val (Value.int x1), .val (Value.int x2), .val (Value.int x3), .val (Value.int (2 : Int32)), .val (Value.int ((x1 &&& (2147483647 : Int32)) % (5 : Int32))), .val (Value.ref ad35), .val (Value.int (1 : Int32))] []))
      refine own_iconst X50 hx hby at_74 ?_
      show own_G p e below s _ _ _ (T50.setTop (mkF m 75 #[.val (Value.int x0), .val (Value.int x1), .val (Value.int x2), .val (Value.int x3), .val (Value.int (2 : Int32)), .val (Value.int ((x1 &&& (2147483647 : Int32)) % (5 : Int32))), .val (Value.ref ad35), .val (Value.int (1 : Int32))] [(Value.int (1 : Int32))]))
      refine own_goto X50 hx hby at_75 (pc' := 79) (by decide) (by decide) ?_
      show own_G p e below s _ _ _ (T50.setTop (mkF m 79 #[.val (Value.int x0), .val (Value.int x1), .val (Value.int x2), .val (Value.int x3), .val (Value.int (2 : Int32)), .val (Value.int ((x1 &&& (2147483647 : Int32)) % (5 : Int32))), .val (Value.ref ad35), .val (Value.int (1 : Int32))] [(Value.int (1 : Int32))]))
      refine own_retN X50 hx hby hlk (t := .boolean) Bd.returns (by simp) at_79 (by decide) (by decide) ?_
      exact ⟨rfl, N50⟩
  · rw [hk]
    show own_G p e below s _ _ _ (s₁.setTop (mkF m 7 #[.val (Value.int x0), .val (Value.int x1), .val (Value.int x2), .val (Value.int x3), .unset, .unset, .unset, .unset] [(Value.int (3 : Int32))]))
    refine own_istore X0 hx hby at_7 (l' := #[.val (Value.int x0), .val (Value.int x1), .val (Value.int x2), .val (Value.int x3), .val (Value.int (3 : Int32)), .unset, .unset, .unset]) rfl ?_
    show own_G p e below s _ _ _ (s₁.setTop (mkF m 9 #[.val (Value.int x0), .val (Value.int x1), .val (Value.int x2), .val (Value.int x3), .val (Value.int (3 : Int32)), .unset, .unset, .unset] []))
    refine own_iloadN X0 hx hby at_9 rfl ?_
    show own_G p e below s _ _ _ (s₁.setTop (mkF m 10 #[.val (Value.int x0), .val (Value.int x1), .val (Value.int x2), .val (Value.int x3), .val (Value.int (3 : Int32)), .unset, .unset, .unset] [(Value.int x1)]))
    refine own_ldcI X0 hx hby hZ hown (own_w0 hw) at_10 ?_
    show own_G p e below s _ _ _ (s₁.setTop (mkF m 12 #[.val (Value.int x0), .val (Value.int x1), .val (Value.int x2), .val (Value.int x3), .val (Value.int (3 : Int32)), .unset, .unset, .unset] [(Value.int (2147483647 : Int32)), (Value.int x1)]))
    refine own_iand X0 hx hby at_12 ?_
    show own_G p e below s _ _ _ (s₁.setTop (mkF m 13 #[.val (Value.int x0), .val (Value.int x1), .val (Value.int x2), .val (Value.int x3), .val (Value.int (3 : Int32)), .unset, .unset, .unset] [(Value.int (x1 &&& (2147483647 : Int32)))]))
    refine own_iconst X0 hx hby at_13 ?_
    show own_G p e below s _ _ _ (s₁.setTop (mkF m 14 #[.val (Value.int x0), .val (Value.int x1), .val (Value.int x2), .val (Value.int x3), .val (Value.int (3 : Int32)), .unset, .unset, .unset] [(Value.int (5 : Int32)), (Value.int (x1 &&& (2147483647 : Int32)))]))
    refine own_irem X0 hx hby at_14 (by decide) ?_
    show own_G p e below s _ _ _ (s₁.setTop (mkF m 15 #[.val (Value.int x0), .val (Value.int x1), .val (Value.int x2), .val (Value.int x3), .val (Value.int (3 : Int32)), .unset, .unset, .unset] [(Value.int ((x1 &&& (2147483647 : Int32)) % (5 : Int32)))]))
    refine own_istore X0 hx hby at_15 (l' := #[.val (Value.int x0), .val (Value.int x1), .val (Value.int x2), .val (Value.int x3), .val (Value.int (3 : Int32)), .val (Value.int ((x1 &&& (2147483647 : Int32)) % (5 : Int32))), .unset, .unset]) rfl ?_
    show own_G p e below s _ _ _ (s₁.setTop (mkF m 17 #[.val (Value.int x0), .val (Value.int x1), .val (Value.int x2), .val (Value.int x3), .val (Value.int (3 : Int32)), .val (Value.int ((x1 &&& (2147483647 : Int32)) % (5 : Int32))), .unset, .unset] []))
    obtain ⟨T52, h52, X52, e52, E52, A52, D52, -, st52⟩ := newO X0 hx hZ hown (own_w1 hw) (own_w2 hw) (own_w3 hw) e0 (g := (mkF m 17 #[.val (Value.int x0), .val (Value.int x1), .val (Value.int x2), .val (Value.int x3), .val (Value.int (3 : Int32)), .val (Value.int ((x1 &&& (2147483647 : Int32)) % (5 : Int32))), .unset, .unset] [])) rfl (hb hby at_17) (by decide) (by decide)
    obtain ⟨ad52, g52⟩ : ∃ z, z = h0.size := ⟨_, rfl⟩
    rw [← g52] at A52 D52 st52
    have O53 := Old.ext O0 E52
    have g52n : n0 ≤ ad52 := by rw [g52]; exact O0.1 ▸ O0.2.1
    have F52_kind : Fld Z h52 ad52 "com/example/inchworm/inchworm/query/NodeTest" "kind" "Lcom/example/inchworm/inchworm/label/NodeKind;" Value.null := D52 (Or.inr (own_w54 hw)) (ty := (.object "com/example/inchworm/inchworm/label/NodeKind")) (by decide)
    have F52_namespace : Fld Z h52 ad52 "com/example/inchworm/inchworm/query/NodeTest" "namespace" "Ljava/lang/String;" Value.null := D52 (Or.inr (own_w56 hw)) (ty := (.object "java/lang/String")) (by decide)
    have F52_name : Fld Z h52 ad52 "com/example/inchworm/inchworm/query/NodeTest" "name" "Ljava/lang/String;" Value.null := D52 (Or.inr (own_w58 hw)) (ty := (.object "java/lang/String")) (by decide)
    refine own_st st52 ?_
    show own_G p e below s _ _ _ (T52.setTop (mkF m 20 #[.val (Value.int x0), .val (Value.int x1), .val (Value.int x2), .val (Value.int x3), .val (Value.int (3 : Int32)), .val (Value.int ((x1 &&& (2147483647 : Int32)) % (5 : Int32))), .unset, .unset] [(Value.ref ad52)]))
    refine own_dup X52 hx hby at_20 rfl ?_
    show own_G p e below s _ _ _ (T52.setTop (mkF m 21 #[.val (Value.int x0), .val (Value.int x1), .val (Value.int x2), .val (Value.int x3), .val (Value.int (3 : Int32)), .val (Value.int ((x1 &&& (2147483647 : Int32)) % (5 : Int32))), .unset, .unset] [(Value.ref ad52), (Value.ref ad52)]))
    refine own_iload X52 hx hby at_21 rfl ?_
    show own_G p e below s _ _ _ (T52.setTop (mkF m 23 #[.val (Value.int x0), .val (Value.int x1), .val (Value.int x2), .val (Value.int x3), .val (Value.int (3 : Int32)), .val (Value.int ((x1 &&& (2147483647 : Int32)) % (5 : Int32))), .unset, .unset] [(Value.int (3 : Int32)), (Value.ref ad52), (Value.ref ad52)]))
    obtain ⟨_, _, ⟨T54, L54, k54, n54⟩, -, X54, ⟨Lc54, hQ54, l54, y54, z54⟩, st54⟩ := Jvm.LawKit.callS X52 hx (y := (⟨"com/example/inchworm/inchworm/query/NodeTestMayMatchPinLaw", "kindOf", "(I)Lcom/example/inchworm/inchworm/label/NodeKind;"⟩ : MethodName)) hown (mvT hZ (own_w4 hw)) (mvT hZ (own_w5 hw)) (mvT hZ (own_w6 hw)) (mvT hZ (own_w7 hw)) (by decide) (backOf (W := 2) (own_rm1 l Z a0 hw [] (3 : Int32) a_ELEMENT a_ATTRIBUTE a_TEXT a_COMMENT a_PROCESSING_INSTRUCTION h52 n0 O53  En_ELEMENT En_ATTRIBUTE En_TEXT En_COMMENT En_PROCESSING_INSTRUCTION) hZ (own_w7 hw) (own_w6 hw) (by decide) (by decide)) (g := (mkF m 23 #[.val (Value.int x0), .val (Value.int x1), .val (Value.int x2), .val (Value.int x3), .val (Value.int (3 : Int32)), .val (Value.int ((x1 &&& (2147483647 : Int32)) % (5 : Int32))), .unset, .unset] [(Value.int (3 : Int32)), (Value.ref ad52), (Value.ref ad52)])) rfl (by rw [hml]; rfl) (argsL := [(Value.int (3 : Int32))]) (rest := [(Value.ref ad52), (Value.ref ad52)]) (lenOf own_pd2 rfl) rfl (by show 2 * 0 + _ ≤ _; exact Nat.le_of_eq rfl) (hb hby at_23) (fun _ _ => ⟨rfl, e52, (by decide : (1 : Nat) + 0 ≤ _), (by decide : (3 : Nat) + 0 ≤ _)⟩)
    dsimp only [Pt.U, Pt.locs, Pt.cells, Pt.slots] at X54 l54 y54 z54 st54 hQ54
    subst l54 y54 z54
    obtain ⟨rfl, e54, Nq54⟩ := hQ54
    have N54 := Fr.app N0 Nq54
    refine own_st st54 ?_
    show own_G p e below s _ _ _ (T54.setTop (mkF m 26 #[.val (Value.int x0), .val (Value.int x1), .val (Value.int x2), .val (Value.int x3), .val (Value.int (3 : Int32)), .val (Value.int ((x1 &&& (2147483647 : Int32)) % (5 : Int32))), .unset, .unset] [(own_kd (3 : Int32) a_ELEMENT a_ATTRIBUTE a_TEXT a_COMMENT a_PROCESSING_INSTRUCTION), (Value.ref ad52), (Value.ref ad52)]))
    rw [show (own_kd (3 : Int32) a_ELEMENT a_ATTRIBUTE a_TEXT a_COMMENT a_PROCESSING_INSTRUCTION) = (Value.ref a_COMMENT) from by simp [own_kd]]
    refine own_iloadN X54 hx hby at_26 rfl ?_
    show own_G p e below s _ _ _ (T54.setTop (mkF m 27 #[.val (Value.int x0), .val (Value.int x1), .val (Value.int x2), .val (Value.int x3), .val (Value.int (3 : Int32)), .val (Value.int ((x1 &&& (2147483647 : Int32)) % (5 : Int32))), .unset, .unset] [(Value.int x2), (Value.ref a_COMMENT), (Value.ref ad52), (Value.ref ad52)]))
    obtain ⟨_, _, ⟨T55, L55, k55, n55⟩, -, X55, ⟨Lc55, hQ55, l55, y55, z55⟩, st55⟩ := Jvm.LawKit.callS X54 hx (y := (⟨"com/example/inchworm/inchworm/query/NodeTestMayMatchPinLaw", "drawn", "(I)Ljava/lang/String;"⟩ : MethodName)) hown (mvT hZ (own_w11 hw)) (mvT hZ (own_w12 hw)) (mvT hZ (own_w6 hw)) (mvT hZ (own_w13 hw)) (by decide) (backOf (W := 3) (own_rm2 l Z a0 hw [] x2 G1 h52 n0 O53  hO2 hP3) hZ (own_w13 hw) (own_w6 hw) (by decide) (by decide)) (g := (mkF m 27 #[.val (Value.int x0), .val (Value.int x1), .val (Value.int x2), .val (Value.int x3), .val (Value.int (3 : Int32)), .val (Value.int ((x1 &&& (2147483647 : Int32)) % (5 : Int32))), .unset, .unset] [(Value.int x2), (Value.ref a_COMMENT), (Value.ref ad52), (Value.ref ad52)])) rfl (by rw [hml]; rfl) (argsL := [(Value.int x2)]) (rest := [(Value.ref a_COMMENT), (Value.ref ad52), (Value.ref ad52)]) (lenOf own_pd3 rfl) rfl (by show 2 * 0 + _ ≤ _; exact Nat.le_of_eq rfl) (hb hby at_27) (fun _ _ => ⟨rfl, e54, (by decide : (1 : Nat) + 3 ≤ _), (by decide : (3 : Nat) + 6 ≤ _)⟩)
    dsimp only [Pt.U, Pt.locs, Pt.cells, Pt.slots] at X55 l55 y55 z55 st55 hQ55
    subst l55 y55 z55
    obtain ⟨r55, rfl, hr55, Nq55, Kq55⟩ := hQ55
    have N55 := Fr.app N54 Nq55
    have F56_ad52_kind := Fld.keep F52_kind Kq55 nin0
    have F56_ad52_namespace := Fld.keep F52_namespace Kq55 nin0
    have F56_ad52_name := Fld.keep F52_name Kq55 nin0
    have E56_ad52 := Exa.keep A52 Kq55
    have O56 := Old.keep O53 Kq55 all0
    refine own_st st55 ?_
    show own_G p e below s _ _ _ (T55.setTop (mkF m 30 #[.val (Value.int x0), .val (Value.int x1), .val (Value.int x2), .val (Value.int x3), .val (Value.int (3 : Int32)), .val (Value.int ((x1 &&& (2147483647 : Int32)) % (5 : Int32))), .unset, .unset] [r55, (Value.ref a_COMMENT), (Value.ref ad52), (Value.ref ad52)]))
    refine own_iloadN X55 hx hby at_30 rfl ?_
    show own_G p e below s _ _ _ (T55.setTop (mkF m 31 #[.val (Value.int x0), .val (Value.int x1), .val (Value.int x2), .val (Value.int x3), .val (Value.int (3 : Int32)), .val (Value.int ((x1 &&& (2147483647 : Int32)) % (5 : Int32))), .unset, .unset] [(Value.int x3), r55, (Value.ref a_COMMENT), (Value.ref ad52), (Value.ref ad52)]))
    obtain ⟨_, _, ⟨T57, L57, k57, n57⟩, -, X57, ⟨Lc57, hQ57, l57, y57, z57⟩, st57⟩ := Jvm.LawKit.callS X55 hx (y := (⟨"com/example/inchworm/inchworm/query/NodeTestMayMatchPinLaw", "drawn", "(I)Ljava/lang/String;"⟩ : MethodName)) hown (mvT hZ (own_w11 hw)) (mvT hZ (own_w12 hw)) (mvT hZ (own_w6 hw)) (mvT hZ (own_w13 hw)) (by decide) (backOf (W := 4) (own_rm2 l Z a0 hw [] x3 G1 T55.heap n0 O56  hO2 hP3) hZ (own_w13 hw) (own_w6 hw) (by decide) (by decide)) (g := (mkF m 31 #[.val (Value.int x0), .val (Value.int x1), .val (Value.int x2), .val (Value.int x3), .val (Value.int (3 : Int32)), .val (Value.int ((x1 &&& (2147483647 : Int32)) % (5 : Int32))), .unset, .unset] [(Value.int x3), r55, (Value.ref a_COMMENT), (Value.ref ad52), (Value.ref ad52)])) rfl (by rw [hml]; rfl) (argsL := [(Value.int x3)]) (rest := [r55, (Value.ref a_COMMENT), (Value.ref ad52), (Value.ref ad52)]) (lenOf own_pd3 rfl) rfl (by simp only [List.map_cons, List.map_nil, List.sum_cons, List.sum_nil, own_catR hr55]; exact Nat.le_of_eq rfl) (hb hby at_31) (fun _ _ => ⟨rfl, rfl, (by decide : (4 : Nat) + 3 ≤ _), (by decide : (9 : Nat) + 6 ≤ _)⟩)
    dsimp only [Pt.U, Pt.locs, Pt.cells, Pt.slots] at X57 l57 y57 z57 st57 hQ57
    subst l57 y57 z57
    obtain ⟨r57, rfl, hr57, Nq57, Kq57⟩ := hQ57
    have N57 := Fr.app N55 Nq57
    have F58_ad52_kind := Fld.keep F56_ad52_kind Kq57 nin0
    have F58_ad52_namespace := Fld.keep F56_ad52_namespace Kq57 nin0
    have F58_ad52_name := Fld.keep F56_ad52_name Kq57 nin0
    have E58_ad52 := Exa.keep E56_ad52 Kq57
    have O58 := Old.keep O56 Kq57 all0
    refine own_st st57 ?_
    show own_G p e below s _ _ _ (T57.setTop (mkF m 34 #[.val (Value.int x0), .val (Value.int x1), .val (Value.int x2), .val (Value.int x3), .val (Value.int (3 : Int32)), .val (Value.int ((x1 &&& (2147483647 : Int32)) % (5 : Int32))), .unset, .unset] [r57, r55, (Value.ref a_COMMENT), (Value.ref ad52), (Value.ref ad52)]))
    obtain ⟨_, _, ⟨T59, L59, k59, n59⟩, -, X59, ⟨Lc59, hQ59, l59, y59, z59⟩, st59⟩ := X57.specialBack hx (y := (⟨"com/example/inchworm/inchworm/query/NodeTest", "<init>", "(Lcom/example/inchworm/inchworm/label/NodeKind;Ljava/lang/String;Ljava/lang/String;)V"⟩ : MethodName)) rfl hown (mvT hZ (own_w44 hw)) (mvT hZ (own_w45 hw)) (mvT hZ (own_w46 hw)) (by decide) (backOf (W := 1) (own_rmTA l Z a0 hw [] ad52 a_COMMENT r55 r57  T57.heap n0 O58 hr55 hr57 E58_ad52 F58_ad52_kind F58_ad52_namespace F58_ad52_name g52n) hZ (own_w46 hw) (own_w3 hw) (by decide) (by decide)) (g := (mkF m 34 #[.val (Value.int x0), .val (Value.int x1), .val (Value.int x2), .val (Value.int x3), .val (Value.int (3 : Int32)), .val (Value.int ((x1 &&& (2147483647 : Int32)) % (5 : Int32))), .unset, .unset] [r57, r55, (Value.ref a_COMMENT), (Value.ref ad52), (Value.ref ad52)])) rfl (by rw [hml]; rfl) (Steps.refl _) (a := ad52) (argsL := [(Value.ref a_COMMENT), r55, r57]) (rest := [(Value.ref ad52)]) (lenOf own_pd4 rfl) rfl (by show 2 * 0 + _ ≤ _; exact Nat.le_of_eq rfl) (hb hby at_34) (fun _ _ => ⟨rfl, rfl, (by decide : (7 : Nat) + 0 ≤ _), (by decide : (15 : Nat) + 0 ≤ _)⟩)
    dsimp only [Pt.U, Pt.locs, Pt.cells, Pt.slots] at X59 l59 y59 z59 st59 hQ59
    subst l59 y59 z59
    obtain ⟨rfl, Nq59, Kq59, Eq59, Fq59_kind, Fq59_namespace, Fq59_name⟩ := hQ59
    have N59 := Fr.app N57 Nq59
    have E60_ad52 := Exa.keep E58_ad52 Kq59
    have O60 := Old.keep O58 Kq59 (allS g52n all0)
    refine own_tr st59 ?_
    show own_G p e below s _ _ _ (T59.setTop (mkF m 37 #[.val (Value.int x0), .val (Value.int x1), .val (Value.int x2), .val (Value.int x3), .val (Value.int (3 : Int32)), .val (Value.int ((x1 &&& (2147483647 : Int32)) % (5 : Int32))), .unset, .unset] [(Value.ref ad52)]))
    refine own_astore X59 hx hby at_37 rfl (l' := #[.val (Value.int x0), .val (Value.int x1), .val (Value.int x2), .val (Value.int x3), .val (Value.int (3 : Int32)), .val (Value.int ((x1 &&& (2147483647 : Int32)) % (5 : Int32))), .val (Value.ref ad52), .unset]) rfl ?_
    show own_G p e below s _ _ _ (T59.setTop (mkF m 39 #[.val (Value.int x0), .val (Value.int x1), .val (Value.int x2), .val (Value.int x3), .val (Value.int (3 : Int32)), .val (Value.int ((x1 &&& (2147483647 : Int32)) % (5 : Int32))), .val (Value.ref ad52), .unset] []))
    refine own_iload X59 hx hby at_39 rfl ?_
    show own_G p e below s _ _ _ (T59.setTop (mkF m 41 #[.val (Value.int x0), .val (Value.int x1), .val (Value.int x2), .val (Value.int x3), .val (Value.int (3 : Int32)), .val (Value.int ((x1 &&& (2147483647 : Int32)) % (5 : Int32))), .val (Value.ref ad52), .unset] [(Value.int (3 : Int32))]))
    refine own_iconst X59 hx hby at_41 ?_
    show own_G p e below s _ _ _ (T59.setTop (mkF m 42 #[.val (Value.int x0), .val (Value.int x1), .val (Value.int x2), .val (Value.int x3), .val (Value.int (3 : Int32)), .val (Value.int ((x1 &&& (2147483647 : Int32)) % (5 : Int32))), .val (Value.ref ad52), .unset] [(Value.int (5 : Int32)), (Value.int (3 : Int32))]))
    refine own_icmp_eq X59 hx hby at_42 (pc' := 52) (by decide) (by decide) (fun hb61 => by exfalso; revert hb61; decide) (fun hb61 => ?_)
    show own_G p e below s _ _ _ (T59.setTop (mkF m 45 #[.val (Value.int x0), .val (Value.int x1), .val (Value.int x2), .val (Value.int x3), .val (Value.int (3 : Int32)), .val (Value.int ((x1 &&& (2147483647 : Int32)) % (5 : Int32))), .val (Value.ref ad52), .unset] []))
    refine own_iload X59 hx hby at_45 rfl ?_
    show own_G p e below s _ _ _ (T59.setTop (mkF m 47 #[.val (Value.int x0), .val (Value.int x1), .val (Value.int x2), .val (Value.int x3), .val (Value.int (3 : Int32)), .val (Value.int ((x1 &&& (2147483647 : Int32)) % (5 : Int32))), .val (Value.ref ad52), .unset] [(Value.int (3 : Int32))]))
    refine own_iload X59 hx hby at_47 rfl ?_
    show own_G p e below s _ _ _ (T59.setTop (mkF m 49 #[.val (Value.int x0), .val (Value.int x1), .val (Value.int x2), .val (Value.int x3), .val (Value.int (3 : Int32)), .val (Value.int ((x1 &&& (2147483647 : Int32)) % (5 : Int32))), .val (Value.ref ad52), .unset] [(Value.int ((x1 &&& (2147483647 : Int32)) % (5 : Int32))), (Value.int (3 : Int32))]))
    refine own_icmp_ne X59 hx hby at_49 (pc' := 56) (by decide) (by decide) (fun hb62 => ?_) (fun hb62 => ?_)
    · show own_G p e below s _ _ _ (T59.setTop (mkF m 56 #[.val (Value.int x0), .val (Value.int x1), .val (Value.int x2), .val (Value.int x3), .val (Value.int (3 : Int32)), .val (Value.int ((x1 &&& (2147483647 : Int32)) % (5 : Int32))), .val (Value.ref ad52), .unset] []))
      refine own_iconst X59 hx hby at_56 ?_
      show own_G p e below s _ _ _ (T59.setTop (mkF m 57 #[.val (Value.int x0), .val (Value.int x1), .val (Value.int x2), .val (Value.int x3), .val (Value.int (3 : Int32)), .val (Value.int ((x1 &&& (2147483647 : Int32)) % (5 : Int32))), .val (Value.ref ad52), .unset] [(Value.int (0 : Int32))]))
      refine own_istore X59 hx hby at_57 (l' := #[.val (Value.int x0), .val (Value.int x1), .val (Value.int x2), .val (Value.int x3), .val (Value.int (3 : Int32)), .val (Value.int ((x1 &&& (2147483647 : Int32)) % (5 : Int32))), .val (Value.ref ad52), .val (Value.int (0 : Int32))]) rfl ?_
      show own_G p e below s _ _ _ (T59.setTop (mkF m 59 #[.val (Value.int x0), .val (Value.int x1), .val (Value.int x2), .val (Value.int x3), .val (Value.int (3 : Int32)), .val (Value.int ((x1 &&& (2147483647 : Int32)) % (5 : Int32))), .val (Value.ref ad52), .val (Value.int (0 : Int32))] []))
      refine own_aload X59 hx hby at_59 rfl rfl ?_
      show own_G p e below s _ _ _ (T59.setTop (mkF m 61 #[.val (Value.int x0), .val (Value.int x1), .val (Value.int x2), .val (Value.int x3), .val (Value.int (3 : Int32)), .val (Value.int ((x1 &&& (2147483647 : Int32)) % (5 : Int32))), .val (Value.ref ad52), .val (Value.int (0 : Int32))] [(Value.ref ad52)]))
      refine own_iload X59 hx hby at_61 rfl ?_
      show own_G p e below s _ _ _ (T59.setTop (mkF m 63 #[.val (Value.int x0), .val (Value.int x1), .val (Value.int x2), .val (Value.int x3), .val (Value.int (3 : Int32)), .val (Value.int ((x1 &&& (2147483647 : Int32)) % (5 : Int32))), .val (Value.ref ad52), .val (Value.int (0 : Int32))] [(Value.int ((x1 &&& (2147483647 : Int32)) % (5 : Int32))), (Value.ref ad52)]))
      obtain ⟨_, _, ⟨T63, L63, k63, n63⟩, -, X63, ⟨Lc63, hQ63, l63, y63, z63⟩, st63⟩ := Jvm.LawKit.callS X59 hx (y := (⟨"com/example/inchworm/inchworm/query/NodeTestMayMatchPinLaw", "kindOf", "(I)Lcom/example/inchworm/inchworm/label/NodeKind;"⟩ : MethodName)) hown (mvT hZ (own_w4 hw)) (mvT hZ (own_w5 hw)) (mvT hZ (own_w6 hw)) (mvT hZ (own_w7 hw)) (by decide) (backOf (W := 1) (own_rm1 l Z a0 hw [] ((x1 &&& (2147483647 : Int32)) % (5 : Int32)) a_ELEMENT a_ATTRIBUTE a_TEXT a_COMMENT a_PROCESSING_INSTRUCTION T59.heap n0 O60  En_ELEMENT En_ATTRIBUTE En_TEXT En_COMMENT En_PROCESSING_INSTRUCTION) hZ (own_w7 hw) (own_w6 hw) (by decide) (by decide)) (g := (mkF m 63 #[.val (Value.int x0), .val (Value.int x1), .val (Value.int x2), .val (Value.int x3), .val (Value.int (3 : Int32)), .val (Value.int ((x1 &&& (2147483647 : Int32)) % (5 : Int32))), .val (Value.ref ad52), .val (Value.int (0 : Int32))] [(Value.int ((x1 &&& (2147483647 : Int32)) % (5 : Int32))), (Value.ref ad52)])) rfl (by rw [hml]; rfl) (argsL := [(Value.int ((x1 &&& (2147483647 : Int32)) % (5 : Int32)))]) (rest := [(Value.ref ad52)]) (lenOf own_pd2 rfl) rfl (by show 2 * 0 + _ ≤ _; exact Nat.le_of_eq rfl) (hb hby at_63) (fun _ _ => ⟨rfl, rfl, (by decide : (7 : Nat) + 0 ≤ _), (by decide : (15 : Nat) + 0 ≤ _)⟩)
      dsimp only [Pt.U, Pt.locs, Pt.cells, Pt.slots] at X63 l63 y63 z63 st63 hQ63
      subst l63 y63 z63
      obtain ⟨rfl, e63, Nq63⟩ := hQ63
      have N63 := Fr.app N59 Nq63
      refine own_st st63 ?_
      show own_G p e below s _ _ _ (T63.setTop (mkF m 66 #[.val (Value.int x0), .val (Value.int x1), .val (Value.int x2), .val (Value.int x3), .val (Value.int (3 : Int32)), .val (Value.int ((x1 &&& (2147483647 : Int32)) % (5 : Int32))), .val (Value.ref ad52), .val (Value.int (0 : Int32))] [(own_kd ((x1 &&& (2147483647 : Int32)) % (5 : Int32)) a_ELEMENT a_ATTRIBUTE a_TEXT a_COMMENT a_PROCESSING_INSTRUCTION), (Value.ref ad52)]))
      obtain ⟨cq64, kq64, q64a, q64b, q64c⟩ := isOf (T := T63) hZ e63 Eq59
      obtain ⟨_, _, ⟨T64, L64, k64, n64⟩, -, X64, ⟨Lc64, hQ64, l64, y64, z64⟩, st64⟩ := X63.virtualBack hx (y := (⟨"com/example/inchworm/inchworm/query/NodeTest", "mayMatch", "(Lcom/example/inchworm/inchworm/label/NodeKind;)Z"⟩ : MethodName)) (z := (⟨"com/example/inchworm/inchworm/query/NodeTest", "mayMatch", "(Lcom/example/inchworm/inchworm/label/NodeKind;)Z"⟩ : MethodName)) hown (mvT hZ (own_w61 hw)) (mvT hZ (own_w62 hw)) (notFace_of_selects (args := #[]) (mvT hZ (own_w64 hw))) (mvT hZ (own_w64 hw)) (mvT hZ (own_w63 hw)) (by decide) (backOf (W := 0) (own_rmMA l Z a0 hw [] ad52 (own_kd ((x1 &&& (2147483647 : Int32)) % (5 : Int32)) a_ELEMENT a_ATTRIBUTE a_TEXT a_COMMENT a_PROCESSING_INSTRUCTION) a_COMMENT T59.heap n0 O60 (own_kd_ref _ _ _ _ _ _) Fq59_kind) hZ (own_w65 hw) (own_w3 hw) (by decide) (by decide)) q64a q64c (g := (mkF m 66 #[.val (Value.int x0), .val (Value.int x1), .val (Value.int x2), .val (Value.int x3), .val (Value.int (3 : Int32)), .val (Value.int ((x1 &&& (2147483647 : Int32)) % (5 : Int32))), .val (Value.ref ad52), .val (Value.int (0 : Int32))] [(own_kd ((x1 &&& (2147483647 : Int32)) % (5 : Int32)) a_ELEMENT a_ATTRIBUTE a_TEXT a_COMMENT a_PROCESSING_INSTRUCTION), (Value.ref ad52)])) rfl (by rw [hml]; rfl) (Steps.refl _) (argsL := [(own_kd ((x1 &&& (2147483647 : Int32)) % (5 : Int32)) a_ELEMENT a_ATTRIBUTE a_TEXT a_COMMENT a_PROCESSING_INSTRUCTION)]) (rest := []) (lenOf own_pd5 rfl) rfl (by show 2 * 0 + _ ≤ _; exact Nat.le_of_eq rfl) (hb hby at_66) (fun _ _ => ⟨rfl, e63, (by decide : (7 : Nat) + 0 ≤ _), (by decide : (15 : Nat) + 0 ≤ _)⟩)
      dsimp only [Pt.U, Pt.locs, Pt.cells, Pt.slots] at X64 l64 y64 z64 st64 hQ64
      subst l64 y64 z64
      obtain ⟨rfl, e64, Nq64⟩ := hQ64
      have N64 := Fr.app N63 Nq64
      refine own_tr st64 ?_
      show own_G p e below s _ _ _ (T64.setTop (mkF m 69 #[.val (Value.int x0), .val (Value.int x1), .val (Value.int x2), .val (Value.int x3), .val (Value.int (3 : Int32)), .val (Value.int ((x1 &&& (2147483647 : Int32)) % (5 : Int32))), .val (Value.ref ad52), .val (Value.int (0 : Int32))] [(Value.int (own_mm (.ref a_COMMENT) (own_kd ((x1 &&& (2147483647 : Int32)) % (5 : Int32)) a_ELEMENT a_ATTRIBUTE a_TEXT a_COMMENT a_PROCESSING_INSTRUCTION)))]))
      refine own_iload X64 hx hby at_69 rfl ?_
      show own_G p e below s _ _ _ (T64.setTop (mkF m 71 #[.val (Value.int x0), .val (Value.int x1), .val (Value.int x2), .val (Value.int x3), .val (Value.int (3 : Int32)), .val (Value.int ((x1 &&& (2147483647 : Int32)) % (5 : Int32))), .val (Value.ref ad52), .val (Value.int (0 : Int32))] [(Value.int (0 : Int32)), (Value.int (own_mm (.ref a_COMMENT) (own_kd ((x1 &&& (2147483647 : Int32)) % (5 : Int32)) a_ELEMENT a_ATTRIBUTE a_TEXT a_COMMENT a_PROCESSING_INSTRUCTION)))]))
      refine own_icmp_ne X64 hx hby at_71 (pc' := 78) (by decide) (by decide) (fun hb65 => by exfalso; exact hb65 (if_neg (fun q => hb62 (own_kd_inj_COMMENT (Fld.ne En_ELEMENT.2.2 En_COMMENT.2.2 (by decide)) (Fld.ne En_ATTRIBUTE.2.2 En_COMMENT.2.2 (by decide)) (Fld.ne En_TEXT.2.2 En_COMMENT.2.2 (by decide)) (Fld.ne En_PROCESSING_INSTRUCTION.2.2 En_COMMENT.2.2 (by decide)) q.symm).symm))) (fun hb65 => ?_)
      show own_G p e below s _ _ _ (T64.setTop (mkF m 74 #[.val (Value.int x0), .val (Value.int x1), .val (Value.int x2), .val (Value.int x3), .val (Value.int (3 : Int32)), .val (Value.int ((x1 &&& (2147483647 : Int32)) % (5 : Int32))), .val (Value.ref ad52), .val (Value.int (0 : Int32))] []))
      refine own_iconst X64 hx hby at_74 ?_
      show own_G p e below s _ _ _ (T64.setTop (mkF m 75 #[.val (Value.int x0), .val (Value.int x1), .val (Value.int x2), .val (Value.int x3), .val (Value.int (3 : Int32)), .val (Value.int ((x1 &&& (2147483647 : Int32)) % (5 : Int32))), .val (Value.ref ad52), .val (Value.int (0 : Int32))] [(Value.int (1 : Int32))]))
      refine own_goto X64 hx hby at_75 (pc' := 79) (by decide) (by decide) ?_
      show own_G p e below s _ _ _ (T64.setTop (mkF m 79 #[.val (Value.int x0), .val (Value.int x1), .val (Value.int x2), .val (Value.int x3), .val (Value.int (3 : Int32)), .val (Value.int ((x1 &&& (2147483647 : Int32)) % (5 : Int32))), .val (Value.ref ad52), .val (Value.int (0 : Int32))] [(Value.int (1 : Int32))]))
      refine own_retN X64 hx hby hlk (t := .boolean) Bd.returns (by simp) at_79 (by decide) (by decide) ?_
      exact ⟨rfl, N64⟩
    · show own_G p e below s _ _ _ (T59.setTop (mkF m 52 #[.val (Value.int x0), .val (Value.int x1), .val (Value.int x2), .val (Value.int x3), .val (Value.int (3 : Int32)), .val (Value.int ((x1 &&& (2147483647 : Int32)) % (5 : Int32))), .val (Value.ref ad52), .unset] []))
      refine own_iconst X59 hx hby at_52 ?_
      show own_G p e below s _ _ _ (T59.setTop (mkF m 53 #[.val (Value.int x0), .val (Value.int x1), .val (Value.int x2), .val (Value.int x3), .val (Value.int (3 : Int32)), .val (Value.int ((x1 &&& (2147483647 : Int32)) % (5 : Int32))), .val (Value.ref ad52), .unset] [(Value.int (1 : Int32))]))
      refine own_goto X59 hx hby at_53 (pc' := 57) (by decide) (by decide) ?_
      show own_G p e below s _ _ _ (T59.setTop (mkF m 57 #[.val (Value.int x0), .val (Value.int x1), .val (Value.int x2), .val (Value.int x3), .val (Value.int (3 : Int32)), .val (Value.int ((x1 &&& (2147483647 : Int32)) % (5 : Int32))), .val (Value.ref ad52), .unset] [(Value.int (1 : Int32))]))
      refine own_istore X59 hx hby at_57 (l' := #[.val (Value.int x0), .val (Value.int x1), .val (Value.int x2), .val (Value.int x3), .val (Value.int (3 : Int32)), .val (Value.int ((x1 &&& (2147483647 : Int32)) % (5 : Int32))), .val (Value.ref ad52), .val (Value.int (1 : Int32))]) rfl ?_
      show own_G p e below s _ _ _ (T59.setTop (mkF m 59 #[.val (Value.int x0), .val (Value.int x1), .val (Value.int x2), .val (Value.int x3), .val (Value.int (3 : Int32)), .val (Value.int ((x1 &&& (2147483647 : Int32)) % (5 : Int32))), .val (Value.ref ad52), .val (Value.int (1 : Int32))] []))
      refine own_aload X59 hx hby at_59 rfl rfl ?_
      show own_G p e below s _ _ _ (T59.setTop (mkF m 61 #[.val (Value.int x0), .val (Value.int x1), .val (Value.int x2), .val (Value.int x3), .val (Value.int (3 : Int32)), .val (Value.int ((x1 &&& (2147483647 : Int32)) % (5 : Int32))), .val (Value.ref ad52), .val (Value.int (1 : Int32))] [(Value.ref ad52)]))
      refine own_iload X59 hx hby at_61 rfl ?_
      show own_G p e below s _ _ _ (T59.setTop (mkF m 63 #[.val (Value.int x0), .val (Value.int x1), .val (Value.int x2), .val (Value.int x3), .val (Value.int (3 : Int32)), .val (Value.int ((x1 &&& (2147483647 : Int32)) % (5 : Int32))), .val (Value.ref ad52), .val (Value.int (1 : Int32))] [(Value.int ((x1 &&& (2147483647 : Int32)) % (5 : Int32))), (Value.ref ad52)]))
      obtain ⟨_, _, ⟨T66, L66, k66, n66⟩, -, X66, ⟨Lc66, hQ66, l66, y66, z66⟩, st66⟩ := Jvm.LawKit.callS X59 hx (y := (⟨"com/example/inchworm/inchworm/query/NodeTestMayMatchPinLaw", "kindOf", "(I)Lcom/example/inchworm/inchworm/label/NodeKind;"⟩ : MethodName)) hown (mvT hZ (own_w4 hw)) (mvT hZ (own_w5 hw)) (mvT hZ (own_w6 hw)) (mvT hZ (own_w7 hw)) (by decide) (backOf (W := 1) (own_rm1 l Z a0 hw [] ((x1 &&& (2147483647 : Int32)) % (5 : Int32)) a_ELEMENT a_ATTRIBUTE a_TEXT a_COMMENT a_PROCESSING_INSTRUCTION T59.heap n0 O60  En_ELEMENT En_ATTRIBUTE En_TEXT En_COMMENT En_PROCESSING_INSTRUCTION) hZ (own_w7 hw) (own_w6 hw) (by decide) (by decide)) (g := (mkF m 63 #[.val (Value.int x0), .val (Value.int x1), .val (Value.int x2), .val (Value.int x3), .val (Value.int (3 : Int32)), .val (Value.int ((x1 &&& (2147483647 : Int32)) % (5 : Int32))), .val (Value.ref ad52), .val (Value.int (1 : Int32))] [(Value.int ((x1 &&& (2147483647 : Int32)) % (5 : Int32))), (Value.ref ad52)])) rfl (by rw [hml]; rfl) (argsL := [(Value.int ((x1 &&& (2147483647 : Int32)) % (5 : Int32)))]) (rest := [(Value.ref ad52)]) (lenOf own_pd2 rfl) rfl (by show 2 * 0 + _ ≤ _; exact Nat.le_of_eq rfl) (hb hby at_63) (fun _ _ => ⟨rfl, rfl, (by decide : (7 : Nat) + 0 ≤ _), (by decide : (15 : Nat) + 0 ≤ _)⟩)
      dsimp only [Pt.U, Pt.locs, Pt.cells, Pt.slots] at X66 l66 y66 z66 st66 hQ66
      subst l66 y66 z66
      obtain ⟨rfl, e66, Nq66⟩ := hQ66
      have N66 := Fr.app N59 Nq66
      refine own_st st66 ?_
      show own_G p e below s _ _ _ (T66.setTop (mkF m 66 #[.val (Value.int x0), .val (Value.int x1), .val (Value.int x2), .val (Value.int x3), .val (Value.int (3 : Int32)), .val (Value.int ((x1 &&& (2147483647 : Int32)) % (5 : Int32))), .val (Value.ref ad52), .val (Value.int (1 : Int32))] [(own_kd ((x1 &&& (2147483647 : Int32)) % (5 : Int32)) a_ELEMENT a_ATTRIBUTE a_TEXT a_COMMENT a_PROCESSING_INSTRUCTION), (Value.ref ad52)]))
      obtain ⟨cq67, kq67, q67a, q67b, q67c⟩ := isOf (T := T66) hZ e66 Eq59
      obtain ⟨_, _, ⟨T67, L67, k67, n67⟩, -, X67, ⟨Lc67, hQ67, l67, y67, z67⟩, st67⟩ := X66.virtualBack hx (y := (⟨"com/example/inchworm/inchworm/query/NodeTest", "mayMatch", "(Lcom/example/inchworm/inchworm/label/NodeKind;)Z"⟩ : MethodName)) (z := (⟨"com/example/inchworm/inchworm/query/NodeTest", "mayMatch", "(Lcom/example/inchworm/inchworm/label/NodeKind;)Z"⟩ : MethodName)) hown (mvT hZ (own_w61 hw)) (mvT hZ (own_w62 hw)) (notFace_of_selects (args := #[]) (mvT hZ (own_w64 hw))) (mvT hZ (own_w64 hw)) (mvT hZ (own_w63 hw)) (by decide) (backOf (W := 0) (own_rmMA l Z a0 hw [] ad52 (own_kd ((x1 &&& (2147483647 : Int32)) % (5 : Int32)) a_ELEMENT a_ATTRIBUTE a_TEXT a_COMMENT a_PROCESSING_INSTRUCTION) a_COMMENT T59.heap n0 O60 (own_kd_ref _ _ _ _ _ _) Fq59_kind) hZ (own_w65 hw) (own_w3 hw) (by decide) (by decide)) q67a q67c (g := (mkF m 66 #[.val (Value.int x0), .val (Value.int x1), .val (Value.int x2), .val (Value.int x3), .val (Value.int (3 : Int32)), .val (Value.int ((x1 &&& (2147483647 : Int32)) % (5 : Int32))), .val (Value.ref ad52), .val (Value.int (1 : Int32))] [(own_kd ((x1 &&& (2147483647 : Int32)) % (5 : Int32)) a_ELEMENT a_ATTRIBUTE a_TEXT a_COMMENT a_PROCESSING_INSTRUCTION), (Value.ref ad52)])) rfl (by rw [hml]; rfl) (Steps.refl _) (argsL := [(own_kd ((x1 &&& (2147483647 : Int32)) % (5 : Int32)) a_ELEMENT a_ATTRIBUTE a_TEXT a_COMMENT a_PROCESSING_INSTRUCTION)]) (rest := []) (lenOf own_pd5 rfl) rfl (by show 2 * 0 + _ ≤ _; exact Nat.le_of_eq rfl) (hb hby at_66) (fun _ _ => ⟨rfl, e66, (by decide : (7 : Nat) + 0 ≤ _), (by decide : (15 : Nat) + 0 ≤ _)⟩)
      dsimp only [Pt.U, Pt.locs, Pt.cells, Pt.slots] at X67 l67 y67 z67 st67 hQ67
      subst l67 y67 z67
      obtain ⟨rfl, e67, Nq67⟩ := hQ67
      have N67 := Fr.app N66 Nq67
      refine own_tr st67 ?_
      show own_G p e below s _ _ _ (T67.setTop (mkF m 69 #[.val (Value.int x0), .val (Value.int x1), .val (Value.int x2), .val (Value.int x3), .val (Value.int (3 : Int32)), .val (Value.int ((x1 &&& (2147483647 : Int32)) % (5 : Int32))), .val (Value.ref ad52), .val (Value.int (1 : Int32))] [(Value.int (own_mm (.ref a_COMMENT) (own_kd ((x1 &&& (2147483647 : Int32)) % (5 : Int32)) a_ELEMENT a_ATTRIBUTE a_TEXT a_COMMENT a_PROCESSING_INSTRUCTION)))]))
      refine own_iload X67 hx hby at_69 rfl ?_
      show own_G p e below s _ _ _ (T67.setTop (mkF m 71 #[.val (Value.int x0), .val (Value.int x1), .val (Value.int x2), .val (Value.int x3), .val (Value.int (3 : Int32)), .val (Value.int ((x1 &&& (2147483647 : Int32)) % (5 : Int32))), .val (Value.ref ad52), .val (Value.int (1 : Int32))] [(Value.int (1 : Int32)), (Value.int (own_mm (.ref a_COMMENT) (own_kd ((x1 &&& (2147483647 : Int32)) % (5 : Int32)) a_ELEMENT a_ATTRIBUTE a_TEXT a_COMMENT a_PROCESSING_INSTRUCTION)))]))
      refine own_icmp_ne X67 hx hby at_71 (pc' := 78) (by decide) (by decide) (fun hb68 => by exfalso; exact hb68 (by rw [← hb62]; simp [own_mm, own_kd])) (fun hb68 => ?_)
      show own_G p e below s _ _ _ (T67.setTop (mkF m 74 #[.val (Value.int x0), .val (Value.int x1), .val (Value.int x2), .val (Value.int x3), .val (Value.int (3 : Int32)), .val (Value.int ((x1 &&& (2147483647 : Int32)) % (5 : Int32))), .val (Value.ref ad52), .val (Value.int (1 : Int32))] []))
      refine own_iconst X67 hx hby at_74 ?_
      show own_G p e below s _ _ _ (T67.setTop (mkF m 75 #[.val (Value.int x0), .val (Value.int x1), .val (Value.int x2), .val (Value.int x3), .val (Value.int (3 : Int32)), .val (Value.int ((x1 &&& (2147483647 : Int32)) % (5 : Int32))), .val (Value.ref ad52), .val (Value.int (1 : Int32))] [(Value.int (1 : Int32))]))
      refine own_goto X67 hx hby at_75 (pc' := 79) (by decide) (by decide) ?_
      show own_G p e below s _ _ _ (T67.setTop (mkF m 79 #[.val (Value.int x0), .val (Value.int x1), .val (Value.int x2), .val (Value.int x3), .val (Value.int (3 : Int32)), .val (Value.int ((x1 &&& (2147483647 : Int32)) % (5 : Int32))), .val (Value.ref ad52), .val (Value.int (1 : Int32))] [(Value.int (1 : Int32))]))
      refine own_retN X67 hx hby hlk (t := .boolean) Bd.returns (by simp) at_79 (by decide) (by decide) ?_
      exact ⟨rfl, N67⟩
  · rw [hk]
    show own_G p e below s _ _ _ (s₁.setTop (mkF m 7 #[.val (Value.int x0), .val (Value.int x1), .val (Value.int x2), .val (Value.int x3), .unset, .unset, .unset, .unset] [(Value.int (4 : Int32))]))
    refine own_istore X0 hx hby at_7 (l' := #[.val (Value.int x0), .val (Value.int x1), .val (Value.int x2), .val (Value.int x3), .val (Value.int (4 : Int32)), .unset, .unset, .unset]) rfl ?_
    show own_G p e below s _ _ _ (s₁.setTop (mkF m 9 #[.val (Value.int x0), .val (Value.int x1), .val (Value.int x2), .val (Value.int x3), .val (Value.int (4 : Int32)), .unset, .unset, .unset] []))
    refine own_iloadN X0 hx hby at_9 rfl ?_
    show own_G p e below s _ _ _ (s₁.setTop (mkF m 10 #[.val (Value.int x0), .val (Value.int x1), .val (Value.int x2), .val (Value.int x3), .val (Value.int (4 : Int32)), .unset, .unset, .unset] [(Value.int x1)]))
    refine own_ldcI X0 hx hby hZ hown (own_w0 hw) at_10 ?_
    show own_G p e below s _ _ _ (s₁.setTop (mkF m 12 #[.val (Value.int x0), .val (Value.int x1), .val (Value.int x2), .val (Value.int x3), .val (Value.int (4 : Int32)), .unset, .unset, .unset] [(Value.int (2147483647 : Int32)), (Value.int x1)]))
    refine own_iand X0 hx hby at_12 ?_
    show own_G p e below s _ _ _ (s₁.setTop (mkF m 13 #[.val (Value.int x0), .val (Value.int x1), .val (Value.int x2), .val (Value.int x3), .val (Value.int (4 : Int32)), .unset, .unset, .unset] [(Value.int (x1 &&& (2147483647 : Int32)))]))
    refine own_iconst X0 hx hby at_13 ?_
    show own_G p e below s _ _ _ (s₁.setTop (mkF m 14 #[.val (Value.int x0), .val (Value.int x1), .val (Value.int x2), .val (Value.int x3), .val (Value.int (4 : Int32)), .unset, .unset, .unset] [(Value.int (5 : Int32)), (Value.int (x1 &&& (2147483647 : Int32)))]))
    refine own_irem X0 hx hby at_14 (by decide) ?_
    show own_G p e below s _ _ _ (s₁.setTop (mkF m 15 #[.val (Value.int x0), .val (Value.int x1), .val (Value.int x2), .val (Value.int x3), .val (Value.int (4 : Int32)), .unset, .unset, .unset] [(Value.int ((x1 &&& (2147483647 : Int32)) % (5 : Int32)))]))
    refine own_istore X0 hx hby at_15 (l' := #[.val (Value.int x0), .val (Value.int x1), .val (Value.int x2), .val (Value.int x3), .val (Value.int (4 : Int32)), .val (Value.int ((x1 &&& (2147483647 : Int32)) % (5 : Int32))), .unset, .unset]) rfl ?_
    show own_G p e below s _ _ _ (s₁.setTop (mkF m 17 #[.val (Value.int x0), .val (Value.int x1), .val (Value.int x2), .val (Value.int x3), .val (Value.int (4 : Int32)), .val (Value.int ((x1 &&& (2147483647 : Int32)) % (5 : Int32))), .unset, .unset] []))
    obtain ⟨T69, h69, X69, e69, E69, A69, D69, -, st69⟩ := newO X0 hx hZ hown (own_w1 hw) (own_w2 hw) (own_w3 hw) e0 (g := (mkF m 17 #[.val (Value.int x0), .val (Value.int x1), .val (Value.int x2), .val (Value.int x3), .val (Value.int (4 : Int32)), .val (Value.int ((x1 &&& (2147483647 : Int32)) % (5 : Int32))), .unset, .unset] [])) rfl (hb hby at_17) (by decide) (by decide)
    obtain ⟨ad69, g69⟩ : ∃ z, z = h0.size := ⟨_, rfl⟩
    rw [← g69] at A69 D69 st69
    have O70 := Old.ext O0 E69
    have g69n : n0 ≤ ad69 := by rw [g69]; exact O0.1 ▸ O0.2.1
    have F69_kind : Fld Z h69 ad69 "com/example/inchworm/inchworm/query/NodeTest" "kind" "Lcom/example/inchworm/inchworm/label/NodeKind;" Value.null := D69 (Or.inr (own_w54 hw)) (ty := (.object "com/example/inchworm/inchworm/label/NodeKind")) (by decide)
    have F69_namespace : Fld Z h69 ad69 "com/example/inchworm/inchworm/query/NodeTest" "namespace" "Ljava/lang/String;" Value.null := D69 (Or.inr (own_w56 hw)) (ty := (.object "java/lang/String")) (by decide)
    have F69_name : Fld Z h69 ad69 "com/example/inchworm/inchworm/query/NodeTest" "name" "Ljava/lang/String;" Value.null := D69 (Or.inr (own_w58 hw)) (ty := (.object "java/lang/String")) (by decide)
    refine own_st st69 ?_
    show own_G p e below s _ _ _ (T69.setTop (mkF m 20 #[.val (Value.int x0), .val (Value.int x1), .val (Value.int x2), .val (Value.int x3), .val (Value.int (4 : Int32)), .val (Value.int ((x1 &&& (2147483647 : Int32)) % (5 : Int32))), .unset, .unset] [(Value.ref ad69)]))
    refine own_dup X69 hx hby at_20 rfl ?_
    show own_G p e below s _ _ _ (T69.setTop (mkF m 21 #[.val (Value.int x0), .val (Value.int x1), .val (Value.int x2), .val (Value.int x3), .val (Value.int (4 : Int32)), .val (Value.int ((x1 &&& (2147483647 : Int32)) % (5 : Int32))), .unset, .unset] [(Value.ref ad69), (Value.ref ad69)]))
    refine own_iload X69 hx hby at_21 rfl ?_
    show own_G p e below s _ _ _ (T69.setTop (mkF m 23 #[.val (Value.int x0), .val (Value.int x1), .val (Value.int x2), .val (Value.int x3), .val (Value.int (4 : Int32)), .val (Value.int ((x1 &&& (2147483647 : Int32)) % (5 : Int32))), .unset, .unset] [(Value.int (4 : Int32)), (Value.ref ad69), (Value.ref ad69)]))
    obtain ⟨_, _, ⟨T71, L71, k71, n71⟩, -, X71, ⟨Lc71, hQ71, l71, y71, z71⟩, st71⟩ := Jvm.LawKit.callS X69 hx (y := (⟨"com/example/inchworm/inchworm/query/NodeTestMayMatchPinLaw", "kindOf", "(I)Lcom/example/inchworm/inchworm/label/NodeKind;"⟩ : MethodName)) hown (mvT hZ (own_w4 hw)) (mvT hZ (own_w5 hw)) (mvT hZ (own_w6 hw)) (mvT hZ (own_w7 hw)) (by decide) (backOf (W := 2) (own_rm1 l Z a0 hw [] (4 : Int32) a_ELEMENT a_ATTRIBUTE a_TEXT a_COMMENT a_PROCESSING_INSTRUCTION h69 n0 O70  En_ELEMENT En_ATTRIBUTE En_TEXT En_COMMENT En_PROCESSING_INSTRUCTION) hZ (own_w7 hw) (own_w6 hw) (by decide) (by decide)) (g := (mkF m 23 #[.val (Value.int x0), .val (Value.int x1), .val (Value.int x2), .val (Value.int x3), .val (Value.int (4 : Int32)), .val (Value.int ((x1 &&& (2147483647 : Int32)) % (5 : Int32))), .unset, .unset] [(Value.int (4 : Int32)), (Value.ref ad69), (Value.ref ad69)])) rfl (by rw [hml]; rfl) (argsL := [(Value.int (4 : Int32))]) (rest := [(Value.ref ad69), (Value.ref ad69)]) (lenOf own_pd2 rfl) rfl (by show 2 * 0 + _ ≤ _; exact Nat.le_of_eq rfl) (hb hby at_23) (fun _ _ => ⟨rfl, e69, (by decide : (1 : Nat) + 0 ≤ _), (by decide : (3 : Nat) + 0 ≤ _)⟩)
    dsimp only [Pt.U, Pt.locs, Pt.cells, Pt.slots] at X71 l71 y71 z71 st71 hQ71
    subst l71 y71 z71
    obtain ⟨rfl, e71, Nq71⟩ := hQ71
    have N71 := Fr.app N0 Nq71
    refine own_st st71 ?_
    show own_G p e below s _ _ _ (T71.setTop (mkF m 26 #[.val (Value.int x0), .val (Value.int x1), .val (Value.int x2), .val (Value.int x3), .val (Value.int (4 : Int32)), .val (Value.int ((x1 &&& (2147483647 : Int32)) % (5 : Int32))), .unset, .unset] [(own_kd (4 : Int32) a_ELEMENT a_ATTRIBUTE a_TEXT a_COMMENT a_PROCESSING_INSTRUCTION), (Value.ref ad69), (Value.ref ad69)]))
    rw [show (own_kd (4 : Int32) a_ELEMENT a_ATTRIBUTE a_TEXT a_COMMENT a_PROCESSING_INSTRUCTION) = (Value.ref a_PROCESSING_INSTRUCTION) from by simp [own_kd]]
    refine own_iloadN X71 hx hby at_26 rfl ?_
    show own_G p e below s _ _ _ (T71.setTop (mkF m 27 #[.val (Value.int x0), .val (Value.int x1), .val (Value.int x2), .val (Value.int x3), .val (Value.int (4 : Int32)), .val (Value.int ((x1 &&& (2147483647 : Int32)) % (5 : Int32))), .unset, .unset] [(Value.int x2), (Value.ref a_PROCESSING_INSTRUCTION), (Value.ref ad69), (Value.ref ad69)]))
    obtain ⟨_, _, ⟨T72, L72, k72, n72⟩, -, X72, ⟨Lc72, hQ72, l72, y72, z72⟩, st72⟩ := Jvm.LawKit.callS X71 hx (y := (⟨"com/example/inchworm/inchworm/query/NodeTestMayMatchPinLaw", "drawn", "(I)Ljava/lang/String;"⟩ : MethodName)) hown (mvT hZ (own_w11 hw)) (mvT hZ (own_w12 hw)) (mvT hZ (own_w6 hw)) (mvT hZ (own_w13 hw)) (by decide) (backOf (W := 3) (own_rm2 l Z a0 hw [] x2 G1 h69 n0 O70  hO2 hP3) hZ (own_w13 hw) (own_w6 hw) (by decide) (by decide)) (g := (mkF m 27 #[.val (Value.int x0), .val (Value.int x1), .val (Value.int x2), .val (Value.int x3), .val (Value.int (4 : Int32)), .val (Value.int ((x1 &&& (2147483647 : Int32)) % (5 : Int32))), .unset, .unset] [(Value.int x2), (Value.ref a_PROCESSING_INSTRUCTION), (Value.ref ad69), (Value.ref ad69)])) rfl (by rw [hml]; rfl) (argsL := [(Value.int x2)]) (rest := [(Value.ref a_PROCESSING_INSTRUCTION), (Value.ref ad69), (Value.ref ad69)]) (lenOf own_pd3 rfl) rfl (by show 2 * 0 + _ ≤ _; exact Nat.le_of_eq rfl) (hb hby at_27) (fun _ _ => ⟨rfl, e71, (by decide : (1 : Nat) + 3 ≤ _), (by decide : (3 : Nat) + 6 ≤ _)⟩)
    dsimp only [Pt.U, Pt.locs, Pt.cells, Pt.slots] at X72 l72 y72 z72 st72 hQ72
    subst l72 y72 z72
    obtain ⟨r72, rfl, hr72, Nq72, Kq72⟩ := hQ72
    have N72 := Fr.app N71 Nq72
    have F73_ad69_kind := Fld.keep F69_kind Kq72 nin0
    have F73_ad69_namespace := Fld.keep F69_namespace Kq72 nin0
    have F73_ad69_name := Fld.keep F69_name Kq72 nin0
    have E73_ad69 := Exa.keep A69 Kq72
    have O73 := Old.keep O70 Kq72 all0
    refine own_st st72 ?_
    show own_G p e below s _ _ _ (T72.setTop (mkF m 30 #[.val (Value.int x0), .val (Value.int x1), .val (Value.int x2), .val (Value.int x3), .val (Value.int (4 : Int32)), .val (Value.int ((x1 &&& (2147483647 : Int32)) % (5 : Int32))), .unset, .unset] [r72, (Value.ref a_PROCESSING_INSTRUCTION), (Value.ref ad69), (Value.ref ad69)]))
    refine own_iloadN X72 hx hby at_30 rfl ?_
    show own_G p e below s _ _ _ (T72.setTop (mkF m 31 #[.val (Value.int x0), .val (Value.int x1), .val (Value.int x2), .val (Value.int x3), .val (Value.int (4 : Int32)), .val (Value.int ((x1 &&& (2147483647 : Int32)) % (5 : Int32))), .unset, .unset] [(Value.int x3), r72, (Value.ref a_PROCESSING_INSTRUCTION), (Value.ref ad69), (Value.ref ad69)]))
    obtain ⟨_, _, ⟨T74, L74, k74, n74⟩, -, X74, ⟨Lc74, hQ74, l74, y74, z74⟩, st74⟩ := Jvm.LawKit.callS X72 hx (y := (⟨"com/example/inchworm/inchworm/query/NodeTestMayMatchPinLaw", "drawn", "(I)Ljava/lang/String;"⟩ : MethodName)) hown (mvT hZ (own_w11 hw)) (mvT hZ (own_w12 hw)) (mvT hZ (own_w6 hw)) (mvT hZ (own_w13 hw)) (by decide) (backOf (W := 4) (own_rm2 l Z a0 hw [] x3 G1 T72.heap n0 O73  hO2 hP3) hZ (own_w13 hw) (own_w6 hw) (by decide) (by decide)) (g := (mkF m 31 #[.val (Value.int x0), .val (Value.int x1), .val (Value.int x2), .val (Value.int x3), .val (Value.int (4 : Int32)), .val (Value.int ((x1 &&& (2147483647 : Int32)) % (5 : Int32))), .unset, .unset] [(Value.int x3), r72, (Value.ref a_PROCESSING_INSTRUCTION), (Value.ref ad69), (Value.ref ad69)])) rfl (by rw [hml]; rfl) (argsL := [(Value.int x3)]) (rest := [r72, (Value.ref a_PROCESSING_INSTRUCTION), (Value.ref ad69), (Value.ref ad69)]) (lenOf own_pd3 rfl) rfl (by simp only [List.map_cons, List.map_nil, List.sum_cons, List.sum_nil, own_catR hr72]; exact Nat.le_of_eq rfl) (hb hby at_31) (fun _ _ => ⟨rfl, rfl, (by decide : (4 : Nat) + 3 ≤ _), (by decide : (9 : Nat) + 6 ≤ _)⟩)
    dsimp only [Pt.U, Pt.locs, Pt.cells, Pt.slots] at X74 l74 y74 z74 st74 hQ74
    subst l74 y74 z74
    obtain ⟨r74, rfl, hr74, Nq74, Kq74⟩ := hQ74
    have N74 := Fr.app N72 Nq74
    have F75_ad69_kind := Fld.keep F73_ad69_kind Kq74 nin0
    have F75_ad69_namespace := Fld.keep F73_ad69_namespace Kq74 nin0
    have F75_ad69_name := Fld.keep F73_ad69_name Kq74 nin0
    have E75_ad69 := Exa.keep E73_ad69 Kq74
    have O75 := Old.keep O73 Kq74 all0
    refine own_st st74 ?_
    show own_G p e below s _ _ _ (T74.setTop (mkF m 34 #[.val (Value.int x0), .val (Value.int x1), .val (Value.int x2), .val (Value.int x3), .val (Value.int (4 : Int32)), .val (Value.int ((x1 &&& (2147483647 : Int32)) % (5 : Int32))), .unset, .unset] [r74, r72, (Value.ref a_PROCESSING_INSTRUCTION), (Value.ref ad69), (Value.ref ad69)]))
    obtain ⟨_, _, ⟨T76, L76, k76, n76⟩, -, X76, ⟨Lc76, hQ76, l76, y76, z76⟩, st76⟩ := X74.specialBack hx (y := (⟨"com/example/inchworm/inchworm/query/NodeTest", "<init>", "(Lcom/example/inchworm/inchworm/label/NodeKind;Ljava/lang/String;Ljava/lang/String;)V"⟩ : MethodName)) rfl hown (mvT hZ (own_w44 hw)) (mvT hZ (own_w45 hw)) (mvT hZ (own_w46 hw)) (by decide) (backOf (W := 1) (own_rmTA l Z a0 hw [] ad69 a_PROCESSING_INSTRUCTION r72 r74  T74.heap n0 O75 hr72 hr74 E75_ad69 F75_ad69_kind F75_ad69_namespace F75_ad69_name g69n) hZ (own_w46 hw) (own_w3 hw) (by decide) (by decide)) (g := (mkF m 34 #[.val (Value.int x0), .val (Value.int x1), .val (Value.int x2), .val (Value.int x3), .val (Value.int (4 : Int32)), .val (Value.int ((x1 &&& (2147483647 : Int32)) % (5 : Int32))), .unset, .unset] [r74, r72, (Value.ref a_PROCESSING_INSTRUCTION), (Value.ref ad69), (Value.ref ad69)])) rfl (by rw [hml]; rfl) (Steps.refl _) (a := ad69) (argsL := [(Value.ref a_PROCESSING_INSTRUCTION), r72, r74]) (rest := [(Value.ref ad69)]) (lenOf own_pd4 rfl) rfl (by show 2 * 0 + _ ≤ _; exact Nat.le_of_eq rfl) (hb hby at_34) (fun _ _ => ⟨rfl, rfl, (by decide : (7 : Nat) + 0 ≤ _), (by decide : (15 : Nat) + 0 ≤ _)⟩)
    dsimp only [Pt.U, Pt.locs, Pt.cells, Pt.slots] at X76 l76 y76 z76 st76 hQ76
    subst l76 y76 z76
    obtain ⟨rfl, Nq76, Kq76, Eq76, Fq76_kind, Fq76_namespace, Fq76_name⟩ := hQ76
    have N76 := Fr.app N74 Nq76
    have E77_ad69 := Exa.keep E75_ad69 Kq76
    have O77 := Old.keep O75 Kq76 (allS g69n all0)
    refine own_tr st76 ?_
    show own_G p e below s _ _ _ (T76.setTop (mkF m 37 #[.val (Value.int x0), .val (Value.int x1), .val (Value.int x2), .val (Value.int x3), .val (Value.int (4 : Int32)), .val (Value.int ((x1 &&& (2147483647 : Int32)) % (5 : Int32))), .unset, .unset] [(Value.ref ad69)]))
    refine own_astore X76 hx hby at_37 rfl (l' := #[.val (Value.int x0), .val (Value.int x1), .val (Value.int x2), .val (Value.int x3), .val (Value.int (4 : Int32)), .val (Value.int ((x1 &&& (2147483647 : Int32)) % (5 : Int32))), .val (Value.ref ad69), .unset]) rfl ?_
    show own_G p e below s _ _ _ (T76.setTop (mkF m 39 #[.val (Value.int x0), .val (Value.int x1), .val (Value.int x2), .val (Value.int x3), .val (Value.int (4 : Int32)), .val (Value.int ((x1 &&& (2147483647 : Int32)) % (5 : Int32))), .val (Value.ref ad69), .unset] []))
    refine own_iload X76 hx hby at_39 rfl ?_
    show own_G p e below s _ _ _ (T76.setTop (mkF m 41 #[.val (Value.int x0), .val (Value.int x1), .val (Value.int x2), .val (Value.int x3), .val (Value.int (4 : Int32)), .val (Value.int ((x1 &&& (2147483647 : Int32)) % (5 : Int32))), .val (Value.ref ad69), .unset] [(Value.int (4 : Int32))]))
    refine own_iconst X76 hx hby at_41 ?_
    show own_G p e below s _ _ _ (T76.setTop (mkF m 42 #[.val (Value.int x0), .val (Value.int x1), .val (Value.int x2), .val (Value.int x3), .val (Value.int (4 : Int32)), .val (Value.int ((x1 &&& (2147483647 : Int32)) % (5 : Int32))), .val (Value.ref ad69), .unset] [(Value.int (5 : Int32)), (Value.int (4 : Int32))]))
    refine own_icmp_eq X76 hx hby at_42 (pc' := 52) (by decide) (by decide) (fun hb78 => by exfalso; revert hb78; decide) (fun hb78 => ?_)
    show own_G p e below s _ _ _ (T76.setTop (mkF m 45 #[.val (Value.int x0), .val (Value.int x1), .val (Value.int x2), .val (Value.int x3), .val (Value.int (4 : Int32)), .val (Value.int ((x1 &&& (2147483647 : Int32)) % (5 : Int32))), .val (Value.ref ad69), .unset] []))
    refine own_iload X76 hx hby at_45 rfl ?_
    show own_G p e below s _ _ _ (T76.setTop (mkF m 47 #[.val (Value.int x0), .val (Value.int x1), .val (Value.int x2), .val (Value.int x3), .val (Value.int (4 : Int32)), .val (Value.int ((x1 &&& (2147483647 : Int32)) % (5 : Int32))), .val (Value.ref ad69), .unset] [(Value.int (4 : Int32))]))
    refine own_iload X76 hx hby at_47 rfl ?_
    show own_G p e below s _ _ _ (T76.setTop (mkF m 49 #[.val (Value.int x0), .val (Value.int x1), .val (Value.int x2), .val (Value.int x3), .val (Value.int (4 : Int32)), .val (Value.int ((x1 &&& (2147483647 : Int32)) % (5 : Int32))), .val (Value.ref ad69), .unset] [(Value.int ((x1 &&& (2147483647 : Int32)) % (5 : Int32))), (Value.int (4 : Int32))]))
    refine own_icmp_ne X76 hx hby at_49 (pc' := 56) (by decide) (by decide) (fun hb79 => ?_) (fun hb79 => ?_)
    · show own_G p e below s _ _ _ (T76.setTop (mkF m 56 #[.val (Value.int x0), .val (Value.int x1), .val (Value.int x2), .val (Value.int x3), .val (Value.int (4 : Int32)), .val (Value.int ((x1 &&& (2147483647 : Int32)) % (5 : Int32))), .val (Value.ref ad69), .unset] []))
      refine own_iconst X76 hx hby at_56 ?_
      show own_G p e below s _ _ _ (T76.setTop (mkF m 57 #[.val (Value.int x0), .val (Value.int x1), .val (Value.int x2), .val (Value.int x3), .val (Value.int (4 : Int32)), .val (Value.int ((x1 &&& (2147483647 : Int32)) % (5 : Int32))), .val (Value.ref ad69), .unset] [(Value.int (0 : Int32))]))
      refine own_istore X76 hx hby at_57 (l' := #[.val (Value.int x0), .val (Value.int x1), .val (Value.int x2), .val (Value.int x3), .val (Value.int (4 : Int32)), .val (Value.int ((x1 &&& (2147483647 : Int32)) % (5 : Int32))), .val (Value.ref ad69), .val (Value.int (0 : Int32))]) rfl ?_
      show own_G p e below s _ _ _ (T76.setTop (mkF m 59 #[.val (Value.int x0), .val (Value.int x1), .val (Value.int x2), .val (Value.int x3), .val (Value.int (4 : Int32)), .val (Value.int ((x1 &&& (2147483647 : Int32)) % (5 : Int32))), .val (Value.ref ad69), .val (Value.int (0 : Int32))] []))
      refine own_aload X76 hx hby at_59 rfl rfl ?_
      show own_G p e below s _ _ _ (T76.setTop (mkF m 61 #[.val (Value.int x0), .val (Value.int x1), .val (Value.int x2), .val (Value.int x3), .val (Value.int (4 : Int32)), .val (Value.int ((x1 &&& (2147483647 : Int32)) % (5 : Int32))), .val (Value.ref ad69), .val (Value.int (0 : Int32))] [(Value.ref ad69)]))
      refine own_iload X76 hx hby at_61 rfl ?_
      show own_G p e below s _ _ _ (T76.setTop (mkF m 63 #[.val (Value.int x0), .val (Value.int x1), .val (Value.int x2), .val (Value.int x3), .val (Value.int (4 : Int32)), .val (Value.int ((x1 &&& (2147483647 : Int32)) % (5 : Int32))), .val (Value.ref ad69), .val (Value.int (0 : Int32))] [(Value.int ((x1 &&& (2147483647 : Int32)) % (5 : Int32))), (Value.ref ad69)]))
      obtain ⟨_, _, ⟨T80, L80, k80, n80⟩, -, X80, ⟨Lc80, hQ80, l80, y80, z80⟩, st80⟩ := Jvm.LawKit.callS X76 hx (y := (⟨"com/example/inchworm/inchworm/query/NodeTestMayMatchPinLaw", "kindOf", "(I)Lcom/example/inchworm/inchworm/label/NodeKind;"⟩ : MethodName)) hown (mvT hZ (own_w4 hw)) (mvT hZ (own_w5 hw)) (mvT hZ (own_w6 hw)) (mvT hZ (own_w7 hw)) (by decide) (backOf (W := 1) (own_rm1 l Z a0 hw [] ((x1 &&& (2147483647 : Int32)) % (5 : Int32)) a_ELEMENT a_ATTRIBUTE a_TEXT a_COMMENT a_PROCESSING_INSTRUCTION T76.heap n0 O77  En_ELEMENT En_ATTRIBUTE En_TEXT En_COMMENT En_PROCESSING_INSTRUCTION) hZ (own_w7 hw) (own_w6 hw) (by decide) (by decide)) (g := (mkF m 63 #[.val (Value.int x0), .val (Value.int x1), .val (Value.int x2), .val (Value.int x3), .val (Value.int (4 : Int32)), .val (Value.int ((x1 &&& (2147483647 : Int32)) % (5 : Int32))), .val (Value.ref ad69), .val (Value.int (0 : Int32))] [(Value.int ((x1 &&& (2147483647 : Int32)) % (5 : Int32))), (Value.ref ad69)])) rfl (by rw [hml]; rfl) (argsL := [(Value.int ((x1 &&& (2147483647 : Int32)) % (5 : Int32)))]) (rest := [(Value.ref ad69)]) (lenOf own_pd2 rfl) rfl (by show 2 * 0 + _ ≤ _; exact Nat.le_of_eq rfl) (hb hby at_63) (fun _ _ => ⟨rfl, rfl, (by decide : (7 : Nat) + 0 ≤ _), (by decide : (15 : Nat) + 0 ≤ _)⟩)
      dsimp only [Pt.U, Pt.locs, Pt.cells, Pt.slots] at X80 l80 y80 z80 st80 hQ80
      subst l80 y80 z80
      obtain ⟨rfl, e80, Nq80⟩ := hQ80
      have N80 := Fr.app N76 Nq80
      refine own_st st80 ?_
      show own_G p e below s _ _ _ (T80.setTop (mkF m 66 #[.val (Value.int x0), .val (Value.int x1), .val (Value.int x2), .val (Value.int x3), .val (Value.int (4 : Int32)), .val (Value.int ((x1 &&& (2147483647 : Int32)) % (5 : Int32))), .val (Value.ref ad69), .val (Value.int (0 : Int32))] [(own_kd ((x1 &&& (2147483647 : Int32)) % (5 : Int32)) a_ELEMENT a_ATTRIBUTE a_TEXT a_COMMENT a_PROCESSING_INSTRUCTION), (Value.ref ad69)]))
      obtain ⟨cq81, kq81, q81a, q81b, q81c⟩ := isOf (T := T80) hZ e80 Eq76
      obtain ⟨_, _, ⟨T81, L81, k81, n81⟩, -, X81, ⟨Lc81, hQ81, l81, y81, z81⟩, st81⟩ := X80.virtualBack hx (y := (⟨"com/example/inchworm/inchworm/query/NodeTest", "mayMatch", "(Lcom/example/inchworm/inchworm/label/NodeKind;)Z"⟩ : MethodName)) (z := (⟨"com/example/inchworm/inchworm/query/NodeTest", "mayMatch", "(Lcom/example/inchworm/inchworm/label/NodeKind;)Z"⟩ : MethodName)) hown (mvT hZ (own_w61 hw)) (mvT hZ (own_w62 hw)) (notFace_of_selects (args := #[]) (mvT hZ (own_w64 hw))) (mvT hZ (own_w64 hw)) (mvT hZ (own_w63 hw)) (by decide) (backOf (W := 0) (own_rmMA l Z a0 hw [] ad69 (own_kd ((x1 &&& (2147483647 : Int32)) % (5 : Int32)) a_ELEMENT a_ATTRIBUTE a_TEXT a_COMMENT a_PROCESSING_INSTRUCTION) a_PROCESSING_INSTRUCTION T76.heap n0 O77 (own_kd_ref _ _ _ _ _ _) Fq76_kind) hZ (own_w65 hw) (own_w3 hw) (by decide) (by decide)) q81a q81c (g := (mkF m 66 #[.val (Value.int x0), .val (Value.int x1), .val (Value.int x2), .val (Value.int x3), .val (Value.int (4 : Int32)), .val (Value.int ((x1 &&& (2147483647 : Int32)) % (5 : Int32))), .val (Value.ref ad69), .val (Value.int (0 : Int32))] [(own_kd ((x1 &&& (2147483647 : Int32)) % (5 : Int32)) a_ELEMENT a_ATTRIBUTE a_TEXT a_COMMENT a_PROCESSING_INSTRUCTION), (Value.ref ad69)])) rfl (by rw [hml]; rfl) (Steps.refl _) (argsL := [(own_kd ((x1 &&& (2147483647 : Int32)) % (5 : Int32)) a_ELEMENT a_ATTRIBUTE a_TEXT a_COMMENT a_PROCESSING_INSTRUCTION)]) (rest := []) (lenOf own_pd5 rfl) rfl (by show 2 * 0 + _ ≤ _; exact Nat.le_of_eq rfl) (hb hby at_66) (fun _ _ => ⟨rfl, e80, (by decide : (7 : Nat) + 0 ≤ _), (by decide : (15 : Nat) + 0 ≤ _)⟩)
      dsimp only [Pt.U, Pt.locs, Pt.cells, Pt.slots] at X81 l81 y81 z81 st81 hQ81
      subst l81 y81 z81
      obtain ⟨rfl, e81, Nq81⟩ := hQ81
      have N81 := Fr.app N80 Nq81
      refine own_tr st81 ?_
      show own_G p e below s _ _ _ (T81.setTop (mkF m 69 #[.val (Value.int x0), .val (Value.int x1), .val (Value.int x2), .val (Value.int x3), .val (Value.int (4 : Int32)), .val (Value.int ((x1 &&& (2147483647 : Int32)) % (5 : Int32))), .val (Value.ref ad69), .val (Value.int (0 : Int32))] [(Value.int (own_mm (.ref a_PROCESSING_INSTRUCTION) (own_kd ((x1 &&& (2147483647 : Int32)) % (5 : Int32)) a_ELEMENT a_ATTRIBUTE a_TEXT a_COMMENT a_PROCESSING_INSTRUCTION)))]))
      refine own_iload X81 hx hby at_69 rfl ?_
      show own_G p e below s _ _ _ (T81.setTop (mkF m 71 #[.val (Value.int x0), .val (Value.int x1), .val (Value.int x2), .val (Value.int x3), .val (Value.int (4 : Int32)), .val (Value.int ((x1 &&& (2147483647 : Int32)) % (5 : Int32))), .val (Value.ref ad69), .val (Value.int (0 : Int32))] [(Value.int (0 : Int32)), (Value.int (own_mm (.ref a_PROCESSING_INSTRUCTION) (own_kd ((x1 &&& (2147483647 : Int32)) % (5 : Int32)) a_ELEMENT a_ATTRIBUTE a_TEXT a_COMMENT a_PROCESSING_INSTRUCTION)))]))
      refine own_icmp_ne X81 hx hby at_71 (pc' := 78) (by decide) (by decide) (fun hb82 => by exfalso; exact hb82 (if_neg (fun q => hb79 (own_kd_inj_PROCESSING_INSTRUCTION (Fld.ne En_ELEMENT.2.2 En_PROCESSING_INSTRUCTION.2.2 (by decide)) (Fld.ne En_ATTRIBUTE.2.2 En_PROCESSING_INSTRUCTION.2.2 (by decide)) (Fld.ne En_TEXT.2.2 En_PROCESSING_INSTRUCTION.2.2 (by decide)) (Fld.ne En_COMMENT.2.2 En_PROCESSING_INSTRUCTION.2.2 (by decide)) q.symm).symm))) (fun hb82 => ?_)
      show own_G p e below s _ _ _ (T81.setTop (mkF m 74 #[.val (Value.int x0), .val (Value.int x1), .val (Value.int x2), .val (Value.int x3), .val (Value.int (4 : Int32)), .val (Value.int ((x1 &&& (2147483647 : Int32)) % (5 : Int32))), .val (Value.ref ad69), .val (Value.int (0 : Int32))] []))
      refine own_iconst X81 hx hby at_74 ?_
      show own_G p e below s _ _ _ (T81.setTop (mkF m 75 #[.val (Value.int x0), .val (Value.int x1), .val (Value.int x2), .val (Value.int x3), .val (Value.int (4 : Int32)), .val (Value.int ((x1 &&& (2147483647 : Int32)) % (5 : Int32))), .val (Value.ref ad69), .val (Value.int (0 : Int32))] [(Value.int (1 : Int32))]))
      refine own_goto X81 hx hby at_75 (pc' := 79) (by decide) (by decide) ?_
      show own_G p e below s _ _ _ (T81.setTop (mkF m 79 #[.val (Value.int x0), .val (Value.int x1), .val (Value.int x2), .val (Value.int x3), .val (Value.int (4 : Int32)), .val (Value.int ((x1 &&& (2147483647 : Int32)) % (5 : Int32))), .val (Value.ref ad69), .val (Value.int (0 : Int32))] [(Value.int (1 : Int32))]))
      refine own_retN X81 hx hby hlk (t := .boolean) Bd.returns (by simp) at_79 (by decide) (by decide) ?_
      exact ⟨rfl, N81⟩
    · show own_G p e below s _ _ _ (T76.setTop (mkF m 52 #[.val (Value.int x0), .val (Value.int x1), .val (Value.int x2), .val (Value.int x3), .val (Value.int (4 : Int32)), .val (Value.int ((x1 &&& (2147483647 : Int32)) % (5 : Int32))), .val (Value.ref ad69), .unset] []))
      refine own_iconst X76 hx hby at_52 ?_
      show own_G p e below s _ _ _ (T76.setTop (mkF m 53 #[.val (Value.int x0), .val (Value.int x1), .val (Value.int x2), .val (Value.int x3), .val (Value.int (4 : Int32)), .val (Value.int ((x1 &&& (2147483647 : Int32)) % (5 : Int32))), .val (Value.ref ad69), .unset] [(Value.int (1 : Int32))]))
      refine own_goto X76 hx hby at_53 (pc' := 57) (by decide) (by decide) ?_
      show own_G p e below s _ _ _ (T76.setTop (mkF m 57 #[.val (Value.int x0), .val (Value.int x1), .val (Value.int x2), .val (Value.int x3), .val (Value.int (4 : Int32)), .val (Value.int ((x1 &&& (2147483647 : Int32)) % (5 : Int32))), .val (Value.ref ad69), .unset] [(Value.int (1 : Int32))]))
      refine own_istore X76 hx hby at_57 (l' := #[.val (Value.int x0), .val (Value.int x1), .val (Value.int x2), .val (Value.int x3), .val (Value.int (4 : Int32)), .val (Value.int ((x1 &&& (2147483647 : Int32)) % (5 : Int32))), .val (Value.ref ad69), .val (Value.int (1 : Int32))]) rfl ?_
      show own_G p e below s _ _ _ (T76.setTop (mkF m 59 #[.val (Value.int x0), .val (Value.int x1), .val (Value.int x2), .val (Value.int x3), .val (Value.int (4 : Int32)), .val (Value.int ((x1 &&& (2147483647 : Int32)) % (5 : Int32))), .val (Value.ref ad69), .val (Value.int (1 : Int32))] []))
      refine own_aload X76 hx hby at_59 rfl rfl ?_
      show own_G p e below s _ _ _ (T76.setTop (mkF m 61 #[.val (Value.int x0), .val (Value.int x1), .val (Value.int x2), .val (Value.int x3), .val (Value.int (4 : Int32)), .val (Value.int ((x1 &&& (2147483647 : Int32)) % (5 : Int32))), .val (Value.ref ad69), .val (Value.int (1 : Int32))] [(Value.ref ad69)]))
      refine own_iload X76 hx hby at_61 rfl ?_
      show own_G p e below s _ _ _ (T76.setTop (mkF m 63 #[.val (Value.int x0), .val (Value.int x1), .val (Value.int x2), .val (Value.int x3), .val (Value.int (4 : Int32)), .val (Value.int ((x1 &&& (2147483647 : Int32)) % (5 : Int32))), .val (Value.ref ad69), .val (Value.int (1 : Int32))] [(Value.int ((x1 &&& (2147483647 : Int32)) % (5 : Int32))), (Value.ref ad69)]))
      obtain ⟨_, _, ⟨T83, L83, k83, n83⟩, -, X83, ⟨Lc83, hQ83, l83, y83, z83⟩, st83⟩ := Jvm.LawKit.callS X76 hx (y := (⟨"com/example/inchworm/inchworm/query/NodeTestMayMatchPinLaw", "kindOf", "(I)Lcom/example/inchworm/inchworm/label/NodeKind;"⟩ : MethodName)) hown (mvT hZ (own_w4 hw)) (mvT hZ (own_w5 hw)) (mvT hZ (own_w6 hw)) (mvT hZ (own_w7 hw)) (by decide) (backOf (W := 1) (own_rm1 l Z a0 hw [] ((x1 &&& (2147483647 : Int32)) % (5 : Int32)) a_ELEMENT a_ATTRIBUTE a_TEXT a_COMMENT a_PROCESSING_INSTRUCTION T76.heap n0 O77  En_ELEMENT En_ATTRIBUTE En_TEXT En_COMMENT En_PROCESSING_INSTRUCTION) hZ (own_w7 hw) (own_w6 hw) (by decide) (by decide)) (g := (mkF m 63 #[.val (Value.int x0), .val (Value.int x1), .val (Value.int x2), .val (Value.int x3), .val (Value.int (4 : Int32)), .val (Value.int ((x1 &&& (2147483647 : Int32)) % (5 : Int32))), .val (Value.ref ad69), .val (Value.int (1 : Int32))] [(Value.int ((x1 &&& (2147483647 : Int32)) % (5 : Int32))), (Value.ref ad69)])) rfl (by rw [hml]; rfl) (argsL := [(Value.int ((x1 &&& (2147483647 : Int32)) % (5 : Int32)))]) (rest := [(Value.ref ad69)]) (lenOf own_pd2 rfl) rfl (by show 2 * 0 + _ ≤ _; exact Nat.le_of_eq rfl) (hb hby at_63) (fun _ _ => ⟨rfl, rfl, (by decide : (7 : Nat) + 0 ≤ _), (by decide : (15 : Nat) + 0 ≤ _)⟩)
      dsimp only [Pt.U, Pt.locs, Pt.cells, Pt.slots] at X83 l83 y83 z83 st83 hQ83
      subst l83 y83 z83
      obtain ⟨rfl, e83, Nq83⟩ := hQ83
      have N83 := Fr.app N76 Nq83
      refine own_st st83 ?_
      show own_G p e below s _ _ _ (T83.setTop (mkF m 66 #[.val (Value.int x0), .val (Value.int x1), .val (Value.int x2), .val (Value.int x3), .val (Value.int (4 : Int32)), .val (Value.int ((x1 &&& (2147483647 : Int32)) % (5 : Int32))), .val (Value.ref ad69), .val (Value.int (1 : Int32))] [(own_kd ((x1 &&& (2147483647 : Int32)) % (5 : Int32)) a_ELEMENT a_ATTRIBUTE a_TEXT a_COMMENT a_PROCESSING_INSTRUCTION), (Value.ref ad69)]))
      obtain ⟨cq84, kq84, q84a, q84b, q84c⟩ := isOf (T := T83) hZ e83 Eq76
      obtain ⟨_, _, ⟨T84, L84, k84, n84⟩, -, X84, ⟨Lc84, hQ84, l84, y84, z84⟩, st84⟩ := X83.virtualBack hx (y := (⟨"com/example/inchworm/inchworm/query/NodeTest", "mayMatch", "(Lcom/example/inchworm/inchworm/label/NodeKind;)Z"⟩ : MethodName)) (z := (⟨"com/example/inchworm/inchworm/query/NodeTest", "mayMatch", "(Lcom/example/inchworm/inchworm/label/NodeKind;)Z"⟩ : MethodName)) hown (mvT hZ (own_w61 hw)) (mvT hZ (own_w62 hw)) (notFace_of_selects (args := #[]) (mvT hZ (own_w64 hw))) (mvT hZ (own_w64 hw)) (mvT hZ (own_w63 hw)) (by decide) (backOf (W := 0) (own_rmMA l Z a0 hw [] ad69 (own_kd ((x1 &&& (2147483647 : Int32)) % (5 : Int32)) a_ELEMENT a_ATTRIBUTE a_TEXT a_COMMENT a_PROCESSING_INSTRUCTION) a_PROCESSING_INSTRUCTION T76.heap n0 O77 (own_kd_ref _ _ _ _ _ _) Fq76_kind) hZ (own_w65 hw) (own_w3 hw) (by decide) (by decide)) q84a q84c (g := (mkF m 66 #[.val (Value.int x0), .val (Value.int x1), .val (Value.int x2), .val (Value.int x3), .val (Value.int (4 : Int32)), .val (Value.int ((x1 &&& (2147483647 : Int32)) % (5 : Int32))), .val (Value.ref ad69), .val (Value.int (1 : Int32))] [(own_kd ((x1 &&& (2147483647 : Int32)) % (5 : Int32)) a_ELEMENT a_ATTRIBUTE a_TEXT a_COMMENT a_PROCESSING_INSTRUCTION), (Value.ref ad69)])) rfl (by rw [hml]; rfl) (Steps.refl _) (argsL := [(own_kd ((x1 &&& (2147483647 : Int32)) % (5 : Int32)) a_ELEMENT a_ATTRIBUTE a_TEXT a_COMMENT a_PROCESSING_INSTRUCTION)]) (rest := []) (lenOf own_pd5 rfl) rfl (by show 2 * 0 + _ ≤ _; exact Nat.le_of_eq rfl) (hb hby at_66) (fun _ _ => ⟨rfl, e83, (by decide : (7 : Nat) + 0 ≤ _), (by decide : (15 : Nat) + 0 ≤ _)⟩)
      dsimp only [Pt.U, Pt.locs, Pt.cells, Pt.slots] at X84 l84 y84 z84 st84 hQ84
      subst l84 y84 z84
      obtain ⟨rfl, e84, Nq84⟩ := hQ84
      have N84 := Fr.app N83 Nq84
      refine own_tr st84 ?_
      show own_G p e below s _ _ _ (T84.setTop (mkF m 69 #[.val (Value.int x0), .val (Value.int x1), .val (Value.int x2), .val (Value.int x3), .val (Value.int (4 : Int32)), .val (Value.int ((x1 &&& (2147483647 : Int32)) % (5 : Int32))), .val (Value.ref ad69), .val (Value.int (1 : Int32))] [(Value.int (own_mm (.ref a_PROCESSING_INSTRUCTION) (own_kd ((x1 &&& (2147483647 : Int32)) % (5 : Int32)) a_ELEMENT a_ATTRIBUTE a_TEXT a_COMMENT a_PROCESSING_INSTRUCTION)))]))
      refine own_iload X84 hx hby at_69 rfl ?_
      show own_G p e below s _ _ _ (T84.setTop (mkF m 71 #[.val (Value.int x0), .val (Value.int x1), .val (Value.int x2), .val (Value.int x3), .val (Value.int (4 : Int32)), .val (Value.int ((x1 &&& (2147483647 : Int32)) % (5 : Int32))), .val (Value.ref ad69), .val (Value.int (1 : Int32))] [(Value.int (1 : Int32)), (Value.int (own_mm (.ref a_PROCESSING_INSTRUCTION) (own_kd ((x1 &&& (2147483647 : Int32)) % (5 : Int32)) a_ELEMENT a_ATTRIBUTE a_TEXT a_COMMENT a_PROCESSING_INSTRUCTION)))]))
      refine own_icmp_ne X84 hx hby at_71 (pc' := 78) (by decide) (by decide) (fun hb85 => by exfalso; exact hb85 (by rw [← hb79]; simp [own_mm, own_kd])) (fun hb85 => ?_)
      show own_G p e below s _ _ _ (T84.setTop (mkF m 74 #[.val (Value.int x0), .val (Value.int x1), .val (Value.int x2), .val (Value.int x3), .val (Value.int (4 : Int32)), .val (Value.int ((x1 &&& (2147483647 : Int32)) % (5 : Int32))), .val (Value.ref ad69), .val (Value.int (1 : Int32))] []))
      refine own_iconst X84 hx hby at_74 ?_
      show own_G p e below s _ _ _ (T84.setTop (mkF m 75 #[.val (Value.int x0), .val (Value.int x1), .val (Value.int x2), .val (Value.int x3), .val (Value.int (4 : Int32)), .val (Value.int ((x1 &&& (2147483647 : Int32)) % (5 : Int32))), .val (Value.ref ad69), .val (Value.int (1 : Int32))] [(Value.int (1 : Int32))]))
      refine own_goto X84 hx hby at_75 (pc' := 79) (by decide) (by decide) ?_
      show own_G p e below s _ _ _ (T84.setTop (mkF m 79 #[.val (Value.int x0), .val (Value.int x1), .val (Value.int x2), .val (Value.int x3), .val (Value.int (4 : Int32)), .val (Value.int ((x1 &&& (2147483647 : Int32)) % (5 : Int32))), .val (Value.ref ad69), .val (Value.int (1 : Int32))] [(Value.int (1 : Int32))]))
      refine own_retN X84 hx hby hlk (t := .boolean) Bd.returns (by simp) at_79 (by decide) (by decide) ?_
      exact ⟨rfl, N84⟩
  · rw [hk]
    show own_G p e below s _ _ _ (s₁.setTop (mkF m 7 #[.val (Value.int x0), .val (Value.int x1), .val (Value.int x2), .val (Value.int x3), .unset, .unset, .unset, .unset] [(Value.int (5 : Int32))]))
    refine own_istore X0 hx hby at_7 (l' := #[.val (Value.int x0), .val (Value.int x1), .val (Value.int x2), .val (Value.int x3), .val (Value.int (5 : Int32)), .unset, .unset, .unset]) rfl ?_
    show own_G p e below s _ _ _ (s₁.setTop (mkF m 9 #[.val (Value.int x0), .val (Value.int x1), .val (Value.int x2), .val (Value.int x3), .val (Value.int (5 : Int32)), .unset, .unset, .unset] []))
    refine own_iloadN X0 hx hby at_9 rfl ?_
    show own_G p e below s _ _ _ (s₁.setTop (mkF m 10 #[.val (Value.int x0), .val (Value.int x1), .val (Value.int x2), .val (Value.int x3), .val (Value.int (5 : Int32)), .unset, .unset, .unset] [(Value.int x1)]))
    refine own_ldcI X0 hx hby hZ hown (own_w0 hw) at_10 ?_
    show own_G p e below s _ _ _ (s₁.setTop (mkF m 12 #[.val (Value.int x0), .val (Value.int x1), .val (Value.int x2), .val (Value.int x3), .val (Value.int (5 : Int32)), .unset, .unset, .unset] [(Value.int (2147483647 : Int32)), (Value.int x1)]))
    refine own_iand X0 hx hby at_12 ?_
    show own_G p e below s _ _ _ (s₁.setTop (mkF m 13 #[.val (Value.int x0), .val (Value.int x1), .val (Value.int x2), .val (Value.int x3), .val (Value.int (5 : Int32)), .unset, .unset, .unset] [(Value.int (x1 &&& (2147483647 : Int32)))]))
    refine own_iconst X0 hx hby at_13 ?_
    show own_G p e below s _ _ _ (s₁.setTop (mkF m 14 #[.val (Value.int x0), .val (Value.int x1), .val (Value.int x2), .val (Value.int x3), .val (Value.int (5 : Int32)), .unset, .unset, .unset] [(Value.int (5 : Int32)), (Value.int (x1 &&& (2147483647 : Int32)))]))
    refine own_irem X0 hx hby at_14 (by decide) ?_
    show own_G p e below s _ _ _ (s₁.setTop (mkF m 15 #[.val (Value.int x0), .val (Value.int x1), .val (Value.int x2), .val (Value.int x3), .val (Value.int (5 : Int32)), .unset, .unset, .unset] [(Value.int ((x1 &&& (2147483647 : Int32)) % (5 : Int32)))]))
    refine own_istore X0 hx hby at_15 (l' := #[.val (Value.int x0), .val (Value.int x1), .val (Value.int x2), .val (Value.int x3), .val (Value.int (5 : Int32)), .val (Value.int ((x1 &&& (2147483647 : Int32)) % (5 : Int32))), .unset, .unset]) rfl ?_
    show own_G p e below s _ _ _ (s₁.setTop (mkF m 17 #[.val (Value.int x0), .val (Value.int x1), .val (Value.int x2), .val (Value.int x3), .val (Value.int (5 : Int32)), .val (Value.int ((x1 &&& (2147483647 : Int32)) % (5 : Int32))), .unset, .unset] []))
    obtain ⟨T86, h86, X86, e86, E86, A86, D86, -, st86⟩ := newO X0 hx hZ hown (own_w1 hw) (own_w2 hw) (own_w3 hw) e0 (g := (mkF m 17 #[.val (Value.int x0), .val (Value.int x1), .val (Value.int x2), .val (Value.int x3), .val (Value.int (5 : Int32)), .val (Value.int ((x1 &&& (2147483647 : Int32)) % (5 : Int32))), .unset, .unset] [])) rfl (hb hby at_17) (by decide) (by decide)
    obtain ⟨ad86, g86⟩ : ∃ z, z = h0.size := ⟨_, rfl⟩
    rw [← g86] at A86 D86 st86
    have O87 := Old.ext O0 E86
    have g86n : n0 ≤ ad86 := by rw [g86]; exact O0.1 ▸ O0.2.1
    have F86_kind : Fld Z h86 ad86 "com/example/inchworm/inchworm/query/NodeTest" "kind" "Lcom/example/inchworm/inchworm/label/NodeKind;" Value.null := D86 (Or.inr (own_w54 hw)) (ty := (.object "com/example/inchworm/inchworm/label/NodeKind")) (by decide)
    have F86_namespace : Fld Z h86 ad86 "com/example/inchworm/inchworm/query/NodeTest" "namespace" "Ljava/lang/String;" Value.null := D86 (Or.inr (own_w56 hw)) (ty := (.object "java/lang/String")) (by decide)
    have F86_name : Fld Z h86 ad86 "com/example/inchworm/inchworm/query/NodeTest" "name" "Ljava/lang/String;" Value.null := D86 (Or.inr (own_w58 hw)) (ty := (.object "java/lang/String")) (by decide)
    refine own_st st86 ?_
    show own_G p e below s _ _ _ (T86.setTop (mkF m 20 #[.val (Value.int x0), .val (Value.int x1), .val (Value.int x2), .val (Value.int x3), .val (Value.int (5 : Int32)), .val (Value.int ((x1 &&& (2147483647 : Int32)) % (5 : Int32))), .unset, .unset] [(Value.ref ad86)]))
    refine own_dup X86 hx hby at_20 rfl ?_
    show own_G p e below s _ _ _ (T86.setTop (mkF m 21 #[.val (Value.int x0), .val (Value.int x1), .val (Value.int x2), .val (Value.int x3), .val (Value.int (5 : Int32)), .val (Value.int ((x1 &&& (2147483647 : Int32)) % (5 : Int32))), .unset, .unset] [(Value.ref ad86), (Value.ref ad86)]))
    refine own_iload X86 hx hby at_21 rfl ?_
    show own_G p e below s _ _ _ (T86.setTop (mkF m 23 #[.val (Value.int x0), .val (Value.int x1), .val (Value.int x2), .val (Value.int x3), .val (Value.int (5 : Int32)), .val (Value.int ((x1 &&& (2147483647 : Int32)) % (5 : Int32))), .unset, .unset] [(Value.int (5 : Int32)), (Value.ref ad86), (Value.ref ad86)]))
    obtain ⟨_, _, ⟨T88, L88, k88, n88⟩, -, X88, ⟨Lc88, hQ88, l88, y88, z88⟩, st88⟩ := Jvm.LawKit.callS X86 hx (y := (⟨"com/example/inchworm/inchworm/query/NodeTestMayMatchPinLaw", "kindOf", "(I)Lcom/example/inchworm/inchworm/label/NodeKind;"⟩ : MethodName)) hown (mvT hZ (own_w4 hw)) (mvT hZ (own_w5 hw)) (mvT hZ (own_w6 hw)) (mvT hZ (own_w7 hw)) (by decide) (backOf (W := 2) (own_rm1 l Z a0 hw [] (5 : Int32) a_ELEMENT a_ATTRIBUTE a_TEXT a_COMMENT a_PROCESSING_INSTRUCTION h86 n0 O87  En_ELEMENT En_ATTRIBUTE En_TEXT En_COMMENT En_PROCESSING_INSTRUCTION) hZ (own_w7 hw) (own_w6 hw) (by decide) (by decide)) (g := (mkF m 23 #[.val (Value.int x0), .val (Value.int x1), .val (Value.int x2), .val (Value.int x3), .val (Value.int (5 : Int32)), .val (Value.int ((x1 &&& (2147483647 : Int32)) % (5 : Int32))), .unset, .unset] [(Value.int (5 : Int32)), (Value.ref ad86), (Value.ref ad86)])) rfl (by rw [hml]; rfl) (argsL := [(Value.int (5 : Int32))]) (rest := [(Value.ref ad86), (Value.ref ad86)]) (lenOf own_pd2 rfl) rfl (by show 2 * 0 + _ ≤ _; exact Nat.le_of_eq rfl) (hb hby at_23) (fun _ _ => ⟨rfl, e86, (by decide : (1 : Nat) + 0 ≤ _), (by decide : (3 : Nat) + 0 ≤ _)⟩)
    dsimp only [Pt.U, Pt.locs, Pt.cells, Pt.slots] at X88 l88 y88 z88 st88 hQ88
    subst l88 y88 z88
    obtain ⟨rfl, e88, Nq88⟩ := hQ88
    have N88 := Fr.app N0 Nq88
    refine own_st st88 ?_
    show own_G p e below s _ _ _ (T88.setTop (mkF m 26 #[.val (Value.int x0), .val (Value.int x1), .val (Value.int x2), .val (Value.int x3), .val (Value.int (5 : Int32)), .val (Value.int ((x1 &&& (2147483647 : Int32)) % (5 : Int32))), .unset, .unset] [(own_kd (5 : Int32) a_ELEMENT a_ATTRIBUTE a_TEXT a_COMMENT a_PROCESSING_INSTRUCTION), (Value.ref ad86), (Value.ref ad86)]))
    rw [show (own_kd (5 : Int32) a_ELEMENT a_ATTRIBUTE a_TEXT a_COMMENT a_PROCESSING_INSTRUCTION) = Value.null from by simp [own_kd]]
    refine own_iloadN X88 hx hby at_26 rfl ?_
    show own_G p e below s _ _ _ (T88.setTop (mkF m 27 #[.val (Value.int x0), .val (Value.int x1), .val (Value.int x2), .val (Value.int x3), .val (Value.int (5 : Int32)), .val (Value.int ((x1 &&& (2147483647 : Int32)) % (5 : Int32))), .unset, .unset] [(Value.int x2), Value.null, (Value.ref ad86), (Value.ref ad86)]))
    obtain ⟨_, _, ⟨T89, L89, k89, n89⟩, -, X89, ⟨Lc89, hQ89, l89, y89, z89⟩, st89⟩ := Jvm.LawKit.callS X88 hx (y := (⟨"com/example/inchworm/inchworm/query/NodeTestMayMatchPinLaw", "drawn", "(I)Ljava/lang/String;"⟩ : MethodName)) hown (mvT hZ (own_w11 hw)) (mvT hZ (own_w12 hw)) (mvT hZ (own_w6 hw)) (mvT hZ (own_w13 hw)) (by decide) (backOf (W := 3) (own_rm2 l Z a0 hw [] x2 G1 h86 n0 O87  hO2 hP3) hZ (own_w13 hw) (own_w6 hw) (by decide) (by decide)) (g := (mkF m 27 #[.val (Value.int x0), .val (Value.int x1), .val (Value.int x2), .val (Value.int x3), .val (Value.int (5 : Int32)), .val (Value.int ((x1 &&& (2147483647 : Int32)) % (5 : Int32))), .unset, .unset] [(Value.int x2), Value.null, (Value.ref ad86), (Value.ref ad86)])) rfl (by rw [hml]; rfl) (argsL := [(Value.int x2)]) (rest := [Value.null, (Value.ref ad86), (Value.ref ad86)]) (lenOf own_pd3 rfl) rfl (by show 2 * 0 + _ ≤ _; exact Nat.le_of_eq rfl) (hb hby at_27) (fun _ _ => ⟨rfl, e88, (by decide : (1 : Nat) + 3 ≤ _), (by decide : (3 : Nat) + 6 ≤ _)⟩)
    dsimp only [Pt.U, Pt.locs, Pt.cells, Pt.slots] at X89 l89 y89 z89 st89 hQ89
    subst l89 y89 z89
    obtain ⟨r89, rfl, hr89, Nq89, Kq89⟩ := hQ89
    have N89 := Fr.app N88 Nq89
    have F90_ad86_kind := Fld.keep F86_kind Kq89 nin0
    have F90_ad86_namespace := Fld.keep F86_namespace Kq89 nin0
    have F90_ad86_name := Fld.keep F86_name Kq89 nin0
    have E90_ad86 := Exa.keep A86 Kq89
    have O90 := Old.keep O87 Kq89 all0
    refine own_st st89 ?_
    show own_G p e below s _ _ _ (T89.setTop (mkF m 30 #[.val (Value.int x0), .val (Value.int x1), .val (Value.int x2), .val (Value.int x3), .val (Value.int (5 : Int32)), .val (Value.int ((x1 &&& (2147483647 : Int32)) % (5 : Int32))), .unset, .unset] [r89, Value.null, (Value.ref ad86), (Value.ref ad86)]))
    refine own_iloadN X89 hx hby at_30 rfl ?_
    show own_G p e below s _ _ _ (T89.setTop (mkF m 31 #[.val (Value.int x0), .val (Value.int x1), .val (Value.int x2), .val (Value.int x3), .val (Value.int (5 : Int32)), .val (Value.int ((x1 &&& (2147483647 : Int32)) % (5 : Int32))), .unset, .unset] [(Value.int x3), r89, Value.null, (Value.ref ad86), (Value.ref ad86)]))
    obtain ⟨_, _, ⟨T91, L91, k91, n91⟩, -, X91, ⟨Lc91, hQ91, l91, y91, z91⟩, st91⟩ := Jvm.LawKit.callS X89 hx (y := (⟨"com/example/inchworm/inchworm/query/NodeTestMayMatchPinLaw", "drawn", "(I)Ljava/lang/String;"⟩ : MethodName)) hown (mvT hZ (own_w11 hw)) (mvT hZ (own_w12 hw)) (mvT hZ (own_w6 hw)) (mvT hZ (own_w13 hw)) (by decide) (backOf (W := 4) (own_rm2 l Z a0 hw [] x3 G1 T89.heap n0 O90  hO2 hP3) hZ (own_w13 hw) (own_w6 hw) (by decide) (by decide)) (g := (mkF m 31 #[.val (Value.int x0), .val (Value.int x1), .val (Value.int x2), .val (Value.int x3), .val (Value.int (5 : Int32)), .val (Value.int ((x1 &&& (2147483647 : Int32)) % (5 : Int32))), .unset, .unset] [(Value.int x3), r89, Value.null, (Value.ref ad86), (Value.ref ad86)])) rfl (by rw [hml]; rfl) (argsL := [(Value.int x3)]) (rest := [r89, Value.null, (Value.ref ad86), (Value.ref ad86)]) (lenOf own_pd3 rfl) rfl (by simp only [List.map_cons, List.map_nil, List.sum_cons, List.sum_nil, own_catR hr89]; exact Nat.le_of_eq rfl) (hb hby at_31) (fun _ _ => ⟨rfl, rfl, (by decide : (4 : Nat) + 3 ≤ _), (by decide : (9 : Nat) + 6 ≤ _)⟩)
    dsimp only [Pt.U, Pt.locs, Pt.cells, Pt.slots] at X91 l91 y91 z91 st91 hQ91
    subst l91 y91 z91
    obtain ⟨r91, rfl, hr91, Nq91, Kq91⟩ := hQ91
    have N91 := Fr.app N89 Nq91
    have F92_ad86_kind := Fld.keep F90_ad86_kind Kq91 nin0
    have F92_ad86_namespace := Fld.keep F90_ad86_namespace Kq91 nin0
    have F92_ad86_name := Fld.keep F90_ad86_name Kq91 nin0
    have E92_ad86 := Exa.keep E90_ad86 Kq91
    have O92 := Old.keep O90 Kq91 all0
    refine own_st st91 ?_
    show own_G p e below s _ _ _ (T91.setTop (mkF m 34 #[.val (Value.int x0), .val (Value.int x1), .val (Value.int x2), .val (Value.int x3), .val (Value.int (5 : Int32)), .val (Value.int ((x1 &&& (2147483647 : Int32)) % (5 : Int32))), .unset, .unset] [r91, r89, Value.null, (Value.ref ad86), (Value.ref ad86)]))
    obtain ⟨_, _, ⟨T93, L93, k93, n93⟩, -, X93, ⟨Lc93, hQ93, l93, y93, z93⟩, st93⟩ := X91.specialBack hx (y := (⟨"com/example/inchworm/inchworm/query/NodeTest", "<init>", "(Lcom/example/inchworm/inchworm/label/NodeKind;Ljava/lang/String;Ljava/lang/String;)V"⟩ : MethodName)) rfl hown (mvT hZ (own_w44 hw)) (mvT hZ (own_w45 hw)) (mvT hZ (own_w46 hw)) (by decide) (backOf (W := 1) (own_rmTN l Z a0 hw [] ad86 r89 r91  T91.heap n0 O92 hr89 hr91 E92_ad86 F92_ad86_kind F92_ad86_namespace F92_ad86_name g86n) hZ (own_w46 hw) (own_w3 hw) (by decide) (by decide)) (g := (mkF m 34 #[.val (Value.int x0), .val (Value.int x1), .val (Value.int x2), .val (Value.int x3), .val (Value.int (5 : Int32)), .val (Value.int ((x1 &&& (2147483647 : Int32)) % (5 : Int32))), .unset, .unset] [r91, r89, Value.null, (Value.ref ad86), (Value.ref ad86)])) rfl (by rw [hml]; rfl) (Steps.refl _) (a := ad86) (argsL := [Value.null, r89, r91]) (rest := [(Value.ref ad86)]) (lenOf own_pd4 rfl) rfl (by show 2 * 0 + _ ≤ _; exact Nat.le_of_eq rfl) (hb hby at_34) (fun _ _ => ⟨rfl, rfl, (by decide : (7 : Nat) + 0 ≤ _), (by decide : (15 : Nat) + 0 ≤ _)⟩)
    dsimp only [Pt.U, Pt.locs, Pt.cells, Pt.slots] at X93 l93 y93 z93 st93 hQ93
    subst l93 y93 z93
    obtain ⟨rfl, Nq93, Kq93, Eq93, Fq93_kind, Fq93_namespace, Fq93_name⟩ := hQ93
    have N93 := Fr.app N91 Nq93
    have E94_ad86 := Exa.keep E92_ad86 Kq93
    have O94 := Old.keep O92 Kq93 (allS g86n all0)
    refine own_tr st93 ?_
    show own_G p e below s _ _ _ (T93.setTop (mkF m 37 #[.val (Value.int x0), .val (Value.int x1), .val (Value.int x2), .val (Value.int x3), .val (Value.int (5 : Int32)), .val (Value.int ((x1 &&& (2147483647 : Int32)) % (5 : Int32))), .unset, .unset] [(Value.ref ad86)]))
    refine own_astore X93 hx hby at_37 rfl (l' := #[.val (Value.int x0), .val (Value.int x1), .val (Value.int x2), .val (Value.int x3), .val (Value.int (5 : Int32)), .val (Value.int ((x1 &&& (2147483647 : Int32)) % (5 : Int32))), .val (Value.ref ad86), .unset]) rfl ?_
    show own_G p e below s _ _ _ (T93.setTop (mkF m 39 #[.val (Value.int x0), .val (Value.int x1), .val (Value.int x2), .val (Value.int x3), .val (Value.int (5 : Int32)), .val (Value.int ((x1 &&& (2147483647 : Int32)) % (5 : Int32))), .val (Value.ref ad86), .unset] []))
    refine own_iload X93 hx hby at_39 rfl ?_
    show own_G p e below s _ _ _ (T93.setTop (mkF m 41 #[.val (Value.int x0), .val (Value.int x1), .val (Value.int x2), .val (Value.int x3), .val (Value.int (5 : Int32)), .val (Value.int ((x1 &&& (2147483647 : Int32)) % (5 : Int32))), .val (Value.ref ad86), .unset] [(Value.int (5 : Int32))]))
    refine own_iconst X93 hx hby at_41 ?_
    show own_G p e below s _ _ _ (T93.setTop (mkF m 42 #[.val (Value.int x0), .val (Value.int x1), .val (Value.int x2), .val (Value.int x3), .val (Value.int (5 : Int32)), .val (Value.int ((x1 &&& (2147483647 : Int32)) % (5 : Int32))), .val (Value.ref ad86), .unset] [(Value.int (5 : Int32)), (Value.int (5 : Int32))]))
    refine own_icmp_eq X93 hx hby at_42 (pc' := 52) (by decide) (by decide) (fun hb95 => ?_) (fun hb95 => by exfalso; revert hb95; decide)
    show own_G p e below s _ _ _ (T93.setTop (mkF m 52 #[.val (Value.int x0), .val (Value.int x1), .val (Value.int x2), .val (Value.int x3), .val (Value.int (5 : Int32)), .val (Value.int ((x1 &&& (2147483647 : Int32)) % (5 : Int32))), .val (Value.ref ad86), .unset] []))
    refine own_iconst X93 hx hby at_52 ?_
    show own_G p e below s _ _ _ (T93.setTop (mkF m 53 #[.val (Value.int x0), .val (Value.int x1), .val (Value.int x2), .val (Value.int x3), .val (Value.int (5 : Int32)), .val (Value.int ((x1 &&& (2147483647 : Int32)) % (5 : Int32))), .val (Value.ref ad86), .unset] [(Value.int (1 : Int32))]))
    refine own_goto X93 hx hby at_53 (pc' := 57) (by decide) (by decide) ?_
    show own_G p e below s _ _ _ (T93.setTop (mkF m 57 #[.val (Value.int x0), .val (Value.int x1), .val (Value.int x2), .val (Value.int x3), .val (Value.int (5 : Int32)), .val (Value.int ((x1 &&& (2147483647 : Int32)) % (5 : Int32))), .val (Value.ref ad86), .unset] [(Value.int (1 : Int32))]))
    refine own_istore X93 hx hby at_57 (l' := #[.val (Value.int x0), .val (Value.int x1), .val (Value.int x2), .val (Value.int x3), .val (Value.int (5 : Int32)), .val (Value.int ((x1 &&& (2147483647 : Int32)) % (5 : Int32))), .val (Value.ref ad86), .val (Value.int (1 : Int32))]) rfl ?_
    show own_G p e below s _ _ _ (T93.setTop (mkF m 59 #[.val (Value.int x0), .val (Value.int x1), .val (Value.int x2), .val (Value.int x3), .val (Value.int (5 : Int32)), .val (Value.int ((x1 &&& (2147483647 : Int32)) % (5 : Int32))), .val (Value.ref ad86), .val (Value.int (1 : Int32))] []))
    refine own_aload X93 hx hby at_59 rfl rfl ?_
    show own_G p e below s _ _ _ (T93.setTop (mkF m 61 #[.val (Value.int x0), .val (Value.int x1), .val (Value.int x2), .val (Value.int x3), .val (Value.int (5 : Int32)), .val (Value.int ((x1 &&& (2147483647 : Int32)) % (5 : Int32))), .val (Value.ref ad86), .val (Value.int (1 : Int32))] [(Value.ref ad86)]))
    refine own_iload X93 hx hby at_61 rfl ?_
    show own_G p e below s _ _ _ (T93.setTop (mkF m 63 #[.val (Value.int x0), .val (Value.int x1), .val (Value.int x2), .val (Value.int x3), .val (Value.int (5 : Int32)), .val (Value.int ((x1 &&& (2147483647 : Int32)) % (5 : Int32))), .val (Value.ref ad86), .val (Value.int (1 : Int32))] [(Value.int ((x1 &&& (2147483647 : Int32)) % (5 : Int32))), (Value.ref ad86)]))
    obtain ⟨_, _, ⟨T96, L96, k96, n96⟩, -, X96, ⟨Lc96, hQ96, l96, y96, z96⟩, st96⟩ := Jvm.LawKit.callS X93 hx (y := (⟨"com/example/inchworm/inchworm/query/NodeTestMayMatchPinLaw", "kindOf", "(I)Lcom/example/inchworm/inchworm/label/NodeKind;"⟩ : MethodName)) hown (mvT hZ (own_w4 hw)) (mvT hZ (own_w5 hw)) (mvT hZ (own_w6 hw)) (mvT hZ (own_w7 hw)) (by decide) (backOf (W := 1) (own_rm1 l Z a0 hw [] ((x1 &&& (2147483647 : Int32)) % (5 : Int32)) a_ELEMENT a_ATTRIBUTE a_TEXT a_COMMENT a_PROCESSING_INSTRUCTION T93.heap n0 O94  En_ELEMENT En_ATTRIBUTE En_TEXT En_COMMENT En_PROCESSING_INSTRUCTION) hZ (own_w7 hw) (own_w6 hw) (by decide) (by decide)) (g := (mkF m 63 #[.val (Value.int x0), .val (Value.int x1), .val (Value.int x2), .val (Value.int x3), .val (Value.int (5 : Int32)), .val (Value.int ((x1 &&& (2147483647 : Int32)) % (5 : Int32))), .val (Value.ref ad86), .val (Value.int (1 : Int32))] [(Value.int ((x1 &&& (2147483647 : Int32)) % (5 : Int32))), (Value.ref ad86)])) rfl (by rw [hml]; rfl) (argsL := [(Value.int ((x1 &&& (2147483647 : Int32)) % (5 : Int32)))]) (rest := [(Value.ref ad86)]) (lenOf own_pd2 rfl) rfl (by show 2 * 0 + _ ≤ _; exact Nat.le_of_eq rfl) (hb hby at_63) (fun _ _ => ⟨rfl, rfl, (by decide : (7 : Nat) + 0 ≤ _), (by decide : (15 : Nat) + 0 ≤ _)⟩)
    dsimp only [Pt.U, Pt.locs, Pt.cells, Pt.slots] at X96 l96 y96 z96 st96 hQ96
    subst l96 y96 z96
    obtain ⟨rfl, e96, Nq96⟩ := hQ96
    have N96 := Fr.app N93 Nq96
    refine own_st st96 ?_
    show own_G p e below s _ _ _ (T96.setTop (mkF m 66 #[.val (Value.int x0), .val (Value.int x1), .val (Value.int x2), .val (Value.int x3), .val (Value.int (5 : Int32)), .val (Value.int ((x1 &&& (2147483647 : Int32)) % (5 : Int32))), .val (Value.ref ad86), .val (Value.int (1 : Int32))] [(own_kd ((x1 &&& (2147483647 : Int32)) % (5 : Int32)) a_ELEMENT a_ATTRIBUTE a_TEXT a_COMMENT a_PROCESSING_INSTRUCTION), (Value.ref ad86)]))
    obtain ⟨cq97, kq97, q97a, q97b, q97c⟩ := isOf (T := T96) hZ e96 Eq93
    obtain ⟨_, _, ⟨T97, L97, k97, n97⟩, -, X97, ⟨Lc97, hQ97, l97, y97, z97⟩, st97⟩ := X96.virtualBack hx (y := (⟨"com/example/inchworm/inchworm/query/NodeTest", "mayMatch", "(Lcom/example/inchworm/inchworm/label/NodeKind;)Z"⟩ : MethodName)) (z := (⟨"com/example/inchworm/inchworm/query/NodeTest", "mayMatch", "(Lcom/example/inchworm/inchworm/label/NodeKind;)Z"⟩ : MethodName)) hown (mvT hZ (own_w61 hw)) (mvT hZ (own_w62 hw)) (notFace_of_selects (args := #[]) (mvT hZ (own_w64 hw))) (mvT hZ (own_w64 hw)) (mvT hZ (own_w63 hw)) (by decide) (backOf (W := 0) (own_rmMN l Z a0 hw [] ad86 (own_kd ((x1 &&& (2147483647 : Int32)) % (5 : Int32)) a_ELEMENT a_ATTRIBUTE a_TEXT a_COMMENT a_PROCESSING_INSTRUCTION)  T93.heap n0 O94 (own_kd_ref _ _ _ _ _ _) Fq93_kind) hZ (own_w65 hw) (own_w3 hw) (by decide) (by decide)) q97a q97c (g := (mkF m 66 #[.val (Value.int x0), .val (Value.int x1), .val (Value.int x2), .val (Value.int x3), .val (Value.int (5 : Int32)), .val (Value.int ((x1 &&& (2147483647 : Int32)) % (5 : Int32))), .val (Value.ref ad86), .val (Value.int (1 : Int32))] [(own_kd ((x1 &&& (2147483647 : Int32)) % (5 : Int32)) a_ELEMENT a_ATTRIBUTE a_TEXT a_COMMENT a_PROCESSING_INSTRUCTION), (Value.ref ad86)])) rfl (by rw [hml]; rfl) (Steps.refl _) (argsL := [(own_kd ((x1 &&& (2147483647 : Int32)) % (5 : Int32)) a_ELEMENT a_ATTRIBUTE a_TEXT a_COMMENT a_PROCESSING_INSTRUCTION)]) (rest := []) (lenOf own_pd5 rfl) rfl (by show 2 * 0 + _ ≤ _; exact Nat.le_of_eq rfl) (hb hby at_66) (fun _ _ => ⟨rfl, e96, (by decide : (7 : Nat) + 0 ≤ _), (by decide : (15 : Nat) + 0 ≤ _)⟩)
    dsimp only [Pt.U, Pt.locs, Pt.cells, Pt.slots] at X97 l97 y97 z97 st97 hQ97
    subst l97 y97 z97
    obtain ⟨rfl, e97, Nq97⟩ := hQ97
    have N97 := Fr.app N96 Nq97
    refine own_tr st97 ?_
    show own_G p e below s _ _ _ (T97.setTop (mkF m 69 #[.val (Value.int x0), .val (Value.int x1), .val (Value.int x2), .val (Value.int x3), .val (Value.int (5 : Int32)), .val (Value.int ((x1 &&& (2147483647 : Int32)) % (5 : Int32))), .val (Value.ref ad86), .val (Value.int (1 : Int32))] [(Value.int (1 : Int32))]))
    refine own_iload X97 hx hby at_69 rfl ?_
    show own_G p e below s _ _ _ (T97.setTop (mkF m 71 #[.val (Value.int x0), .val (Value.int x1), .val (Value.int x2), .val (Value.int x3), .val (Value.int (5 : Int32)), .val (Value.int ((x1 &&& (2147483647 : Int32)) % (5 : Int32))), .val (Value.ref ad86), .val (Value.int (1 : Int32))] [(Value.int (1 : Int32)), (Value.int (1 : Int32))]))
    refine own_icmp_ne X97 hx hby at_71 (pc' := 78) (by decide) (by decide) (fun hb98 => by exfalso; revert hb98; decide) (fun hb98 => ?_)
    show own_G p e below s _ _ _ (T97.setTop (mkF m 74 #[.val (Value.int x0), .val (Value.int x1), .val (Value.int x2), .val (Value.int x3), .val (Value.int (5 : Int32)), .val (Value.int ((x1 &&& (2147483647 : Int32)) % (5 : Int32))), .val (Value.ref ad86), .val (Value.int (1 : Int32))] []))
    refine own_iconst X97 hx hby at_74 ?_
    show own_G p e below s _ _ _ (T97.setTop (mkF m 75 #[.val (Value.int x0), .val (Value.int x1), .val (Value.int x2), .val (Value.int x3), .val (Value.int (5 : Int32)), .val (Value.int ((x1 &&& (2147483647 : Int32)) % (5 : Int32))), .val (Value.ref ad86), .val (Value.int (1 : Int32))] [(Value.int (1 : Int32))]))
    refine own_goto X97 hx hby at_75 (pc' := 79) (by decide) (by decide) ?_
    show own_G p e below s _ _ _ (T97.setTop (mkF m 79 #[.val (Value.int x0), .val (Value.int x1), .val (Value.int x2), .val (Value.int x3), .val (Value.int (5 : Int32)), .val (Value.int ((x1 &&& (2147483647 : Int32)) % (5 : Int32))), .val (Value.ref ad86), .val (Value.int (1 : Int32))] [(Value.int (1 : Int32))]))
    refine own_retN X97 hx hby hlk (t := .boolean) Bd.returns (by simp) at_79 (by decide) (by decide) ?_
    exact ⟨rfl, N97⟩
set_option maxRecDepth 65536 in
set_option maxHeartbeats 40000000 in
theorem comes_1 {Post : Tables → Env → Array Value → State → Outcome → State → Prop} (hpost : ∀ tb e args s v u, (limb_1_1.after args s (.returned v) u = true ∧ limb_1_2.after args s (.returned v) u = true ∧ True) → FrameEnd s (.returned v) u (Jvm.fieldLocs frame_1_writes args s ++ Jvm.arrayLocs frame_1_arrays args s ++ Jvm.staticLocs frame_1_statics s) 24 128 → Post tb e args s (.returned v) u) :
    ArmFor flags0 classFile x code maxLocals ret World_1 tables_1 room_1 Calls_1 rest_1 Pre_1 Post := by
  intro l hfl _ _ p e ha hc hk s m args below hf hA hF happ hP
  obtain ⟨hcalls, hrest, hpre⟩ := hP
  obtain ⟨-, -, -, hnamed, -, -, -, hat⟩ := (Spec.applies_iff hf).mp happ
  obtain ⟨hg, hn⟩ := and_e (Cond.before_iff.mp (show (Jvm.Cond.and given_1 narrow_1).before args s = true from hpre))
  obtain ⟨hgc, hgr0⟩ := and_e hg
  obtain ⟨hga0, hgr1⟩ := and_e hgr0
  obtain ⟨hga1, hgr2⟩ := and_e hgr1
  obtain ⟨hga2, hgr3⟩ := and_e hgr2
  have hga3 := hgr3
  obtain ⟨w0, w1, w2, w3, rfl⟩ : ∃ w0 w1 w2 w3 : Value, args = #[w0, w1, w2, w3] := by
    have hs : args.size = 4 := by simpa [Cond.value, given_1] using hgc
    obtain ⟨L⟩ := args
    match L, hs with
    | [w0, w1, w2, w3], _ => exact ⟨w0, w1, w2, w3, rfl⟩
  have hw := fun d (hd : d ∈ tables_1) => atoms_spec (ws := Jvm.Cond.code x code maxLocals ret :: tables_1) hat d (List.mem_cons_of_mem _ hd)
  have hfit : Fit s := fun {y c} hc i hi => by
    obtain ⟨ha, rfl⟩ := Array.getElem?_eq_some_iff.mp hc
    have q := List.all_eq_true.mp ((Array.all_eq_true_iff_forall_mem.mp hF) _ (Array.getElem_mem ha)) i (List.mem_range.mpr hi)
    simpa [Array.getElem?_eq_getElem hi] using q
  obtain ⟨i0, ei0⟩ := is_v hga0
  obtain rfl : w0 = (.int i0) := Option.some.inj ei0
  obtain ⟨i1, ei1⟩ := is_v hga1
  obtain rfl : w1 = (.int i1) := Option.some.inj ei1
  obtain ⟨i2, ei2⟩ := is_v hga2
  obtain rfl : w2 = (.int i2) := Option.some.inj ei2
  obtain ⟨i3, ei3⟩ := is_v hga3
  obtain rfl : w3 = (.int i3) := Option.some.inj ei3
  obtain ⟨hn1a, hn1b⟩ := and_e hn
  obtain ⟨hn2a, hn2b⟩ := and_e hn1b
  obtain ⟨hn3a, hn3b⟩ := and_e hn2b
  obtain ⟨hn4a, hn4b⟩ := and_e hn3b
  obtain ⟨hn5a, hn5b⟩ := and_e hn4b
  obtain ⟨hn6a, hn6b⟩ := and_e hn5b
  obtain ⟨hn7a, hn7b⟩ := and_e hn6b
  obtain ⟨hn8a, hn8b⟩ := and_e hn7b
  obtain ⟨hn9a, hn9b⟩ := and_e hn8b
  obtain ⟨a_ELEMENT, En_ELEMENT⟩ := own_enum hn1a hn3a (own_w9 hw) (own_w10 hw)
  obtain ⟨a_ATTRIBUTE, En_ATTRIBUTE⟩ := own_enum hn5a hn7a (own_w9 hw) (own_w67 hw)
  obtain ⟨a_TEXT, En_TEXT⟩ := own_enum hn9a hn9b (own_w9 hw) (own_w71 hw)
  obtain ⟨a_COMMENT, En_COMMENT⟩ := own_enum hn2a hn4a (own_w9 hw) (own_w60 hw)
  obtain ⟨a_PROCESSING_INSTRUCTION, En_PROCESSING_INSTRUCTION⟩ := own_enum hn6a hn8a (own_w9 hw) (own_w69 hw)
  obtain ⟨hsets, hown0⟩ := atoms_of _ (rest_1_c_eq ▸ (show rest_1_c.before _ s = true from hrest))
  obtain ⟨G1, eG⟩ := is_v (Cond.before_iff.mp (hsets _ (List.mem_of_getElem? (i := 1) rfl)))
  have hO2 := Sta.start eG (Or.inl (hsets _ (List.mem_of_getElem? (i := 0) rfl)))
  have hP3 : ¬ G1 = (0 : Int32) := by
    have q := not_v (Cond.before_iff.mp (hsets _ (List.mem_of_getElem? (i := 2) rfl)))
    simp only [Cond.value] at q
    rw [eG, show (Term.int 0).eval _ s none [] s = some (.int 0) from rfl] at q
    simpa using q
  obtain ⟨n, o, h1, h2, h3, _, L, rfl, ⟨rfl, N⟩, hq⟩ := own_rm0 l s _ hw tables_1 i0 i1 i2 i3 a_ELEMENT a_ATTRIBUTE a_TEXT a_COMMENT a_PROCESSING_INSTRUCTION G1 s.heap s.heap.size (Old.start s) En_ELEMENT En_ATTRIBUTE En_TEXT En_COMMENT En_PROCESSING_INSTRUCTION hO2 hP3 p e ha hc hk s m _ below hf ((Spec.applies_iff_loose hf).mp happ).1 ⟨rfl, State.Warmed39.refl s, rfl⟩ trivial
  refine ⟨n, _, h1, h2, h3, hpost _ _ _ _ _ _ ⟨Cond.after_iff.mpr rfl, Cond.after_iff.mpr (eq_i res_at (Term.int_eval (1)) rfl), trivial⟩ ⟨hq.1, hq.2.1, (hq.2.2.sift fun y hy => Or.inr (N y hy)).mono (by decide) (by decide)⟩⟩
theorem main_1_1 : Claimed_1_1 := comes_1 fun _ _ _ _ _ _ h hF => ⟨h.1, hF⟩
theorem main_1_2 : Claimed_1_2 := comes_1 fun _ _ _ _ _ _ h hF => ⟨h.2.1, hF⟩
end Jvm.Pilot.@@N@@
namespace Jvm.Pilot.@@N@@
open Jvm Jvm.ClassFile Sem Op Lib Jvm.Free Jvm.Stand Jvm.Pilot.@@N@@.Jvm.D
/-! MADE BY PROGRAM (witnessworld.py) out of the Statement's table words and the real class files: 23 classes; the members and pool entries that the words name. The judged class is class 1, her method 3. -/
namespace start1
open Jvm.ClassFile
def u (s : String) : CpInfo := .utf8 (stringToUtf16 s)
/-- a pool by its gaps: so many unusable entries, then the entry; so many at the end -/
def gap : Nat → List CpInfo → List CpInfo
  | 0, r => r
  | n + 1, r => .unusable :: gap n r
def poolList (es : List (Nat × CpInfo)) (last : Nat) : List CpInfo := es.foldr (fun e r => gap e.1 (e.2 :: r)) (gap last [])
def pool (es : List (Nat × CpInfo)) (last : Nat) : Array CpInfo := ⟨poolList es last⟩
def fileOf (pool : Array CpInfo) (this : Nat) (attrs : Array Attribute := #[]) (ms : Array MethodInfo := #[]) (fl : Nat := 33) (sup : Nat := 0) (ifs : Array Nat := #[]) (fds : Array FieldInfo := #[]) : ClassFile where
  minorVersion := 0
  majorVersion := 65
  constantPool := pool
  accessFlags := fl
  thisClass := this
  superClass := sup
  interfaces := ifs
  fields := fds
  methods := ms
  attributes := attrs
def plain (name : String) (sup : Option ClassId) : Class where
  name := name
  kind := .ordinary
  loader := none
  accessFlags := 33
  super := sup
  interfaces := #[]
  cf := none
  fields := #[]
  methods := #[]
  instanceTypes := #[]
  staticTypes := #[]
  resolved := #[]
  callSites := []
  init := .initialized
  statics := none
  mirror := none

def pool0 : Array CpInfo := pool [(5, u "<init>"), (0, u "()V"), (1, .class_ 10), (1, u "java/lang/Object")] 113

def k0c0 : Code := { maxStack := 0, maxLocals := 1, code := object_method_1_code, exceptionTable := #[], attributes := #[] }
def k0m0 : Method := { name := "<init>", desc := "()V", sig := { parameters := [], returnType := none }, accessFlags := 1, code := some k0c0 }
/-- java/lang/Object -/
def k0 : Class := { plain "java/lang/Object" none with
  accessFlags := 33
  interfaces := #[]
  cf := some (fileOf pool0 8 #[] #[{ accessFlags := 1, nameIndex := 5, descriptorIndex := 6, attributes := #[] }] 33 0 #[] #[])
  fields := #[]
  methods := #[k0m0]
  instanceTypes := #[]
  staticTypes := #[]
  resolved := Array.replicate 124 none
  statics := none }

def pool1 : Array CpInfo := pool [(2, .class_ 4), (1, u "java/lang/Object"), (0, u "<init>"), (0, u "()V"), (0, .fieldref 8 9), (0, .class_ 10), (0, .nameAndType 11 12), (0, u "com/example/inchworm/inchworm/label/NodeKind"), (0, u "ELEMENT"), (0, u "Lcom/example/inchworm/inchworm/label/NodeKind;"), (0, .fieldref 8 14), (0, .nameAndType 15 12), (0, u "ATTRIBUTE"), (0, .fieldref 8 17), (0, .nameAndType 18 12), (0, u "TEXT"), (0, .fieldref 8 20), (0, .nameAndType 21 12), (0, u "COMMENT"), (0, .fieldref 8 23), (0, .nameAndType 24 12), (0, u "PROCESSING_INSTRUCTION"), (0, .class_ 26), (0, u "java/lang/String"), (0, .methodref 25 28), (0, .nameAndType 5 29), (0, u "([C)V"), (0, .integer 2147483647), (0, .class_ 32), (0, u "com/example/inchworm/inchworm/query/NodeTest"), (0, .methodref 34 35), (0, .class_ 36), (0, .nameAndType 37 38), (0, u "com/example/inchworm/inchworm/query/NodeTestMayMatchPinLaw"), (0, u "kindOf"), (0, u "(I)Lcom/example/inchworm/inchworm/label/NodeKind;"), (0, .methodref 34 40), (0, .nameAndType 41 42), (0, u "drawn"), (0, u "(I)Ljava/lang/String;"), (0, .methodref 31 44), (0, .nameAndType 5 45), (0, u "(Lcom/example/inchworm/inchworm/label/NodeKind;Ljava/lang/String;Ljava/lang/String;)V"), (0, .methodref 31 47), (0, .nameAndType 48 49), (0, u "mayMatch"), (0, u "(Lcom/example/inchworm/inchworm/label/NodeKind;)Z"), (3, u "law"), (0, u "(IIII)Z")] 2

def k1m0 : Method := { name := "<init>", desc := "()V", sig := { parameters := [], returnType := none }, accessFlags := 1, code := none }
def k1c1 : Code := { maxStack := 2, maxLocals := 1, code := method_2_code, exceptionTable := #[], attributes := #[] }
def k1m1 : Method := { name := "kindOf", desc := "(I)Lcom/example/inchworm/inchworm/label/NodeKind;", sig := { parameters := [.int], returnType := some (.object "com/example/inchworm/inchworm/label/NodeKind") }, accessFlags := 10, code := some k1c1 }
def k1c2 : Code := { maxStack := 7, maxLocals := 1, code := method_3_code, exceptionTable := #[], attributes := #[] }
def k1m2 : Method := { name := "drawn", desc := "(I)Ljava/lang/String;", sig := { parameters := [.int], returnType := some (.object "java/lang/String") }, accessFlags := 10, code := some k1c2 }
def k1c3 : Code := { maxStack := 5, maxLocals := 8, code := code, exceptionTable := #[], attributes := #[] }
def k1m3 : Method := { name := "law", desc := "(IIII)Z", sig := { parameters := [.int, .int, .int, .int], returnType := some .boolean }, accessFlags := 9, code := some k1c3 }
/-- com/example/inchworm/inchworm/query/NodeTestMayMatchPinLaw -/
def k1 : Class := { plain "com/example/inchworm/inchworm/query/NodeTestMayMatchPinLaw" (some 0) with
  accessFlags := 49
  interfaces := #[]
  cf := some (fileOf pool1 34 #[] #[{ accessFlags := 1, nameIndex := 5, descriptorIndex := 6, attributes := #[] }, { accessFlags := 10, nameIndex := 37, descriptorIndex := 38, attributes := #[] }, { accessFlags := 10, nameIndex := 41, descriptorIndex := 42, attributes := #[] }, { accessFlags := 9, nameIndex := 53, descriptorIndex := 54, attributes := #[] }] 49 2 #[] #[])
  fields := #[]
  methods := #[k1m0, k1m1, k1m2, k1m3]
  instanceTypes := #[]
  staticTypes := #[]
  resolved := Array.replicate 57 none
  statics := none }

def pool2 : Array CpInfo := pool [(1, .methodref 2 3), (0, .class_ 4), (0, .nameAndType 5 6), (0, u "java/lang/Object"), (0, u "<init>"), (0, u "()V"), (0, .class_ 8), (0, u "java/lang/Record")] 13

def k2c0 : Code := { maxStack := 1, maxLocals := 1, code := jdk_30_method_1_code, exceptionTable := #[], attributes := #[] }
def k2m0 : Method := { name := "<init>", desc := "()V", sig := { parameters := [], returnType := none }, accessFlags := 4, code := some k2c0 }
/-- java/lang/Record -/
def k2 : Class := { plain "java/lang/Record" (some 0) with
  accessFlags := 1057
  interfaces := #[]
  cf := some (fileOf pool2 7 #[] #[{ accessFlags := 4, nameIndex := 5, descriptorIndex := 6, attributes := #[] }] 1057 2 #[] #[])
  fields := #[]
  methods := #[k2m0]
  instanceTypes := #[]
  staticTypes := #[]
  resolved := Array.replicate 22 none
  statics := none }

def pool3 : Array CpInfo := pool [(1, .methodref 2 3), (0, .class_ 4), (0, .nameAndType 5 6), (0, u "java/lang/Record"), (0, u "<init>"), (0, u "()V"), (0, .fieldref 8 9), (0, .class_ 10), (0, .nameAndType 11 12), (0, u "com/example/inchworm/inchworm/query/NodeTest"), (0, u "kind"), (0, u "Lcom/example/inchworm/inchworm/label/NodeKind;"), (0, .fieldref 8 14), (0, .nameAndType 15 16), (0, u "namespace"), (0, u "Ljava/lang/String;"), (0, .fieldref 8 18), (0, .nameAndType 19 16), (0, u "name"), (6, .class_ 28), (1, u "com/example/inchworm/inchworm/query/NodeTest$1"), (46, u "(Lcom/example/inchworm/inchworm/label/NodeKind;Ljava/lang/String;Ljava/lang/String;)V"), (2, u "NODE"), (0, u "Lcom/example/inchworm/inchworm/query/NodeTest;"), (8, u "mayMatch"), (0, u "(Lcom/example/inchworm/inchworm/label/NodeKind;)Z")] 24

def k3c0 : Code := { maxStack := 2, maxLocals := 4, code := prog_56_method_1_code, exceptionTable := #[], attributes := #[] }
def k3m0 : Method := { name := "<init>", desc := "(Lcom/example/inchworm/inchworm/label/NodeKind;Ljava/lang/String;Ljava/lang/String;)V", sig := { parameters := [(.object "com/example/inchworm/inchworm/label/NodeKind"), (.object "java/lang/String"), (.object "java/lang/String")], returnType := none }, accessFlags := 0, code := some k3c0 }
def k3c1 : Code := { maxStack := 2, maxLocals := 2, code := prog_56_method_4_code, exceptionTable := #[], attributes := #[] }
def k3m1 : Method := { name := "mayMatch", desc := "(Lcom/example/inchworm/inchworm/label/NodeKind;)Z", sig := { parameters := [(.object "com/example/inchworm/inchworm/label/NodeKind")], returnType := some .boolean }, accessFlags := 0, code := some k3c1 }
/-- com/example/inchworm/inchworm/query/NodeTest -/
def k3 : Class := { plain "com/example/inchworm/inchworm/query/NodeTest" (some 2) with
  accessFlags := 48
  interfaces := #[]
  cf := some (fileOf pool3 8 #[.nestMembers #[26]] #[{ accessFlags := 0, nameIndex := 5, descriptorIndex := 75, attributes := #[] }, { accessFlags := 0, nameIndex := 88, descriptorIndex := 89, attributes := #[] }] 48 2 #[] #[{ accessFlags := 18, nameIndex := 11, descriptorIndex := 12, attributes := #[] }, { accessFlags := 18, nameIndex := 15, descriptorIndex := 16, attributes := #[] }, { accessFlags := 18, nameIndex := 19, descriptorIndex := 16, attributes := #[] }, { accessFlags := 24, nameIndex := 78, descriptorIndex := 79, attributes := #[] }])
  fields := #[{ name := "kind", type := (.object "com/example/inchworm/inchworm/label/NodeKind"), accessFlags := 18, slot := 0, constantValue := 0 }, { name := "namespace", type := (.object "java/lang/String"), accessFlags := 18, slot := 1, constantValue := 0 }, { name := "name", type := (.object "java/lang/String"), accessFlags := 18, slot := 2, constantValue := 0 }, { name := "NODE", type := (.object "com/example/inchworm/inchworm/query/NodeTest"), accessFlags := 24, slot := 0, constantValue := 0 }]
  methods := #[k3m0, k3m1]
  instanceTypes := #[(.object "com/example/inchworm/inchworm/label/NodeKind"), (.object "java/lang/String"), (.object "java/lang/String")]
  staticTypes := #[(.object "com/example/inchworm/inchworm/query/NodeTest")]
  resolved := Array.replicate 114 none
  statics := none }

def pool4 : Array CpInfo := pool [(1, .class_ 2), (0, u "java/lang/constant/Constable"), (0, .class_ 4), (0, u "java/lang/Object")] 6

/-- java/lang/constant/Constable -/
def k4 : Class := { plain "java/lang/constant/Constable" (some 0) with
  accessFlags := 1537
  interfaces := #[]
  cf := some (fileOf pool4 1 #[] #[] 1537 3 #[] #[])
  fields := #[]
  methods := #[]
  instanceTypes := #[]
  staticTypes := #[]
  resolved := Array.replicate 11 none
  statics := none }

def pool5 : Array CpInfo := pool [(1, .class_ 2), (0, u "java/lang/Comparable"), (0, .class_ 4), (0, u "java/lang/Object")] 7

/-- java/lang/Comparable -/
def k5 : Class := { plain "java/lang/Comparable" (some 0) with
  accessFlags := 1537
  interfaces := #[]
  cf := some (fileOf pool5 1 #[] #[] 1537 3 #[] #[])
  fields := #[]
  methods := #[]
  instanceTypes := #[]
  staticTypes := #[]
  resolved := Array.replicate 12 none
  statics := none }

def pool6 : Array CpInfo := pool [(1, .class_ 2), (0, u "java/io/Serializable"), (0, .class_ 4), (0, u "java/lang/Object")] 2

/-- java/io/Serializable -/
def k6 : Class := { plain "java/io/Serializable" (some 0) with
  accessFlags := 1537
  interfaces := #[]
  cf := some (fileOf pool6 1 #[] #[] 1537 3 #[] #[])
  fields := #[]
  methods := #[]
  instanceTypes := #[]
  staticTypes := #[]
  resolved := Array.replicate 7 none
  statics := none }

def pool7 : Array CpInfo := pool [(2, .class_ 4), (1, u "java/lang/Enum"), (0, u "name"), (0, u "Ljava/lang/String;"), (2, u "ordinal"), (0, u "I"), (1, .class_ 14), (1, u "java/lang/Object"), (4, u "hash"), (86, .class_ 108), (1, u "java/lang/Enum$EnumDesc"), (2, .class_ 112), (0, u "java/lang/constant/Constable"), (0, .class_ 114), (0, u "java/lang/Comparable"), (0, .class_ 116), (0, u "java/io/Serializable")] 87

/-- java/lang/Enum -/
def k7 : Class := { plain "java/lang/Enum" (some 0) with
  accessFlags := 1057
  interfaces := #[4, 5, 6]
  cf := some (fileOf pool7 2 #[.nestMembers #[106]] #[] 1057 12 #[111, 113, 115] #[{ accessFlags := 18, nameIndex := 5, descriptorIndex := 6, attributes := #[] }, { accessFlags := 18, nameIndex := 9, descriptorIndex := 10, attributes := #[] }, { accessFlags := 2, nameIndex := 19, descriptorIndex := 10, attributes := #[] }])
  fields := #[{ name := "name", type := (.object "java/lang/String"), accessFlags := 18, slot := 0, constantValue := 0 }, { name := "ordinal", type := .int, accessFlags := 18, slot := 1, constantValue := 0 }, { name := "hash", type := .int, accessFlags := 2, slot := 2, constantValue := 0 }]
  methods := #[]
  instanceTypes := #[(.object "java/lang/String"), .int, .int]
  staticTypes := #[]
  resolved := Array.replicate 204 none
  statics := none }

def pool8 : Array CpInfo := pool [(1, .class_ 2), (0, u "com/example/inchworm/inchworm/label/NodeKind"), (2, u "ELEMENT"), (0, u "Lcom/example/inchworm/inchworm/label/NodeKind;"), (2, u "ATTRIBUTE"), (2, u "TEXT"), (2, u "COMMENT"), (2, u "PROCESSING_INSTRUCTION"), (2, u "$VALUES"), (0, u "[Lcom/example/inchworm/inchworm/label/NodeKind;"), (6, .class_ 31), (1, u "java/lang/Enum"), (8, u "article"), (0, u "Ljava/lang/String;"), (2, u "words")] 63

/-- com/example/inchworm/inchworm/label/NodeKind -/
def k8 : Class := { plain "com/example/inchworm/inchworm/label/NodeKind" (some 7) with
  accessFlags := 16433
  interfaces := #[]
  cf := some (fileOf pool8 1 #[] #[] 16433 29 #[] #[{ accessFlags := 16409, nameIndex := 5, descriptorIndex := 6, attributes := #[] }, { accessFlags := 16409, nameIndex := 9, descriptorIndex := 6, attributes := #[] }, { accessFlags := 16409, nameIndex := 12, descriptorIndex := 6, attributes := #[] }, { accessFlags := 16409, nameIndex := 15, descriptorIndex := 6, attributes := #[] }, { accessFlags := 16409, nameIndex := 18, descriptorIndex := 6, attributes := #[] }, { accessFlags := 18, nameIndex := 40, descriptorIndex := 41, attributes := #[] }, { accessFlags := 18, nameIndex := 44, descriptorIndex := 41, attributes := #[] }, { accessFlags := 4122, nameIndex := 21, descriptorIndex := 22, attributes := #[] }])
  fields := #[{ name := "ELEMENT", type := (.object "com/example/inchworm/inchworm/label/NodeKind"), accessFlags := 16409, slot := 0, constantValue := 0 }, { name := "ATTRIBUTE", type := (.object "com/example/inchworm/inchworm/label/NodeKind"), accessFlags := 16409, slot := 1, constantValue := 0 }, { name := "TEXT", type := (.object "com/example/inchworm/inchworm/label/NodeKind"), accessFlags := 16409, slot := 2, constantValue := 0 }, { name := "COMMENT", type := (.object "com/example/inchworm/inchworm/label/NodeKind"), accessFlags := 16409, slot := 3, constantValue := 0 }, { name := "PROCESSING_INSTRUCTION", type := (.object "com/example/inchworm/inchworm/label/NodeKind"), accessFlags := 16409, slot := 4, constantValue := 0 }, { name := "article", type := (.object "java/lang/String"), accessFlags := 18, slot := 3, constantValue := 0 }, { name := "words", type := (.object "java/lang/String"), accessFlags := 18, slot := 4, constantValue := 0 }, { name := "$VALUES", type := (.array (.object "com/example/inchworm/inchworm/label/NodeKind")), accessFlags := 4122, slot := 5, constantValue := 0 }]
  methods := #[]
  instanceTypes := #[(.object "java/lang/String"), .int, .int, (.object "java/lang/String"), (.object "java/lang/String")]
  staticTypes := #[(.object "com/example/inchworm/inchworm/label/NodeKind"), (.object "com/example/inchworm/inchworm/label/NodeKind"), (.object "com/example/inchworm/inchworm/label/NodeKind"), (.object "com/example/inchworm/inchworm/label/NodeKind"), (.object "com/example/inchworm/inchworm/label/NodeKind"), (.array (.object "com/example/inchworm/inchworm/label/NodeKind"))]
  resolved := Array.replicate 108 none
  statics := some 0 }

def pool9 : Array CpInfo := pool [(2, .class_ 4), (1, u "java/lang/CharSequence"), (42, .class_ 48), (0, u "java/lang/CharSequence$1CodePointIterator"), (10, .class_ 60), (0, u "java/lang/CharSequence$1CharIterator"), (5, .class_ 67), (0, u "java/lang/Object")] 63

/-- java/lang/CharSequence -/
def k9 : Class := { plain "java/lang/CharSequence" (some 0) with
  accessFlags := 1537
  interfaces := #[]
  cf := some (fileOf pool9 2 #[.nestMembers #[47, 59]] #[] 1537 66 #[] #[])
  fields := #[]
  methods := #[]
  instanceTypes := #[]
  staticTypes := #[]
  resolved := Array.replicate 131 none
  statics := none }

def pool10 : Array CpInfo := pool [(1, .class_ 2), (0, u "java/lang/constant/ConstantDesc"), (0, .class_ 4), (0, u "java/lang/Object")] 32

/-- java/lang/constant/ConstantDesc -/
def k10 : Class := { plain "java/lang/constant/ConstantDesc" (some 0) with
  accessFlags := 1537
  interfaces := #[]
  cf := some (fileOf pool10 1 #[] #[] 1537 3 #[] #[])
  fields := #[]
  methods := #[]
  instanceTypes := #[]
  staticTypes := #[]
  resolved := Array.replicate 37 none
  statics := none }

def pool11 : Array CpInfo := pool [(1, .methodref 2 3), (0, .class_ 4), (0, .nameAndType 5 6), (0, u "java/lang/Object"), (0, u "<init>"), (0, u "()V"), (2, .fieldref 10 11), (0, .class_ 12), (0, .nameAndType 13 14), (0, u "java/lang/String"), (0, u "value"), (0, u "[B"), (0, .fieldref 10 16), (0, .nameAndType 17 18), (0, u "coder"), (0, u "B"), (2, u "hash"), (0, u "I"), (2, u "hashIsZero"), (0, u "Z"), (0, .methodref 10 28), (0, .nameAndType 5 29), (0, u "([CIILjava/lang/Void;)V"), (8, .fieldref 10 39), (0, .nameAndType 40 26), (0, u "COMPACT_STRINGS"), (1, .class_ 44), (1, u "java/lang/StringUTF16"), (0, u "compress"), (1, .methodref 42 48), (0, .nameAndType 49 50), (0, u "coderFromArrayLen"), (0, u "([BI)B"), (126, .methodref 42 178), (0, .nameAndType 45 179), (0, u "([CII)[B"), (395, .class_ 576), (0, u "java/lang/CharSequence"), (22, u "CASE_INSENSITIVE_ORDER"), (0, u "Ljava/util/Comparator;"), (409, u "([C)V"), (90, u "serialPersistentFields"), (0, u "[Ljava/io/ObjectStreamField;"), (0, .class_ 1104), (0, u "java/lang/String$CaseInsensitiveComparator"), (1, .class_ 1107), (0, u "java/io/Serializable"), (0, .class_ 1109), (0, u "java/lang/Comparable"), (0, .class_ 1111), (0, u "java/lang/constant/Constable"), (0, .class_ 1113), (0, u "java/lang/constant/ConstantDesc"), (2, u "serialVersionUID"), (0, u "J"), (3, u "REPL"), (0, u "C"), (2, u "LATIN1"), (1, u "UTF16")] 323

def k11m0 : Method := { name := "<init>", desc := "()V", sig := { parameters := [], returnType := none }, accessFlags := 1, code := none }
def k11c1 : Code := { maxStack := 5, maxLocals := 2, code := jdk_42_method_3_code, exceptionTable := #[], attributes := #[] }
def k11m1 : Method := { name := "<init>", desc := "([C)V", sig := { parameters := [(.array .char)], returnType := none }, accessFlags := 1, code := some k11c1 }
def k11c2 : Code := { maxStack := 4, maxLocals := 6, code := jdk_42_method_149_code, exceptionTable := #[], attributes := #[] }
def k11m2 : Method := { name := "<init>", desc := "([CIILjava/lang/Void;)V", sig := { parameters := [(.array .char), .int, .int, (.object "java/lang/Void")], returnType := none }, accessFlags := 2, code := some k11c2 }
/-- java/lang/String -/
def k11 : Class := { plain "java/lang/String" (some 0) with
  accessFlags := 49
  interfaces := #[6, 5, 9, 4, 10]
  cf := some (fileOf pool11 10 #[.nestMembers #[1103]] #[{ accessFlags := 1, nameIndex := 5, descriptorIndex := 6, attributes := #[] }, { accessFlags := 1, nameIndex := 5, descriptorIndex := 1010, attributes := #[] }, { accessFlags := 2, nameIndex := 5, descriptorIndex := 29, attributes := #[] }] 49 2 #[1106, 1108, 575, 1110, 1112] #[{ accessFlags := 18, nameIndex := 13, descriptorIndex := 14, attributes := #[] }, { accessFlags := 18, nameIndex := 17, descriptorIndex := 18, attributes := #[] }, { accessFlags := 2, nameIndex := 21, descriptorIndex := 22, attributes := #[] }, { accessFlags := 2, nameIndex := 25, descriptorIndex := 26, attributes := #[] }, { accessFlags := 26, nameIndex := 1116, descriptorIndex := 1117, attributes := #[] }, { accessFlags := 24, nameIndex := 40, descriptorIndex := 26, attributes := #[] }, { accessFlags := 26, nameIndex := 1101, descriptorIndex := 1102, attributes := #[] }, { accessFlags := 26, nameIndex := 1121, descriptorIndex := 1122, attributes := #[] }, { accessFlags := 25, nameIndex := 599, descriptorIndex := 600, attributes := #[] }, { accessFlags := 24, nameIndex := 1125, descriptorIndex := 18, attributes := #[] }, { accessFlags := 24, nameIndex := 1127, descriptorIndex := 18, attributes := #[] }])
  fields := #[{ name := "value", type := (.array .byte), accessFlags := 18, slot := 0, constantValue := 0 }, { name := "coder", type := .byte, accessFlags := 18, slot := 1, constantValue := 0 }, { name := "hash", type := .int, accessFlags := 2, slot := 2, constantValue := 0 }, { name := "hashIsZero", type := .boolean, accessFlags := 2, slot := 3, constantValue := 0 }, { name := "serialVersionUID", type := .long, accessFlags := 26, slot := 0, constantValue := 0 }, { name := "COMPACT_STRINGS", type := .boolean, accessFlags := 24, slot := 1, constantValue := 0 }, { name := "serialPersistentFields", type := (.array (.object "java/io/ObjectStreamField")), accessFlags := 26, slot := 2, constantValue := 0 }, { name := "REPL", type := .char, accessFlags := 26, slot := 3, constantValue := 0 }, { name := "CASE_INSENSITIVE_ORDER", type := (.object "java/util/Comparator"), accessFlags := 25, slot := 4, constantValue := 0 }, { name := "LATIN1", type := .byte, accessFlags := 24, slot := 5, constantValue := 0 }, { name := "UTF16", type := .byte, accessFlags := 24, slot := 6, constantValue := 0 }]
  methods := #[k11m0, k11m1, k11m2]
  instanceTypes := #[(.array .byte), .byte, .int, .boolean]
  staticTypes := #[.long, .boolean, (.array (.object "java/io/ObjectStreamField")), .char, (.object "java/util/Comparator"), .byte, .byte]
  resolved := Array.replicate 1451 none
  statics := some 1 }

def pool12 : Array CpInfo := pool [(6, .class_ 8), (1, u "java/lang/Object"), (0, u "<init>"), (0, u "()V"), (1, .class_ 14), (1, u "java/lang/StringUTF16"), (31, u "$assertionsDisabled"), (0, u "Z"), (13, u "HI_BYTE_SHIFT"), (0, u "I"), (2, u "LO_BYTE_SHIFT"), (49, .methodref 12 116), (0, .nameAndType 117 118), (0, u "compress"), (0, u "([CI[BII)I"), (3, u "([CII)[B"), (138, u "coderFromArrayLen"), (0, u "([BI)B"), (106, .class_ 371), (1, u "java/lang/StringUTF16$LinesSpliterator"), (58, u "MAX_LENGTH"), (196, .class_ 628), (0, u "java/lang/StringUTF16$CodePointsSpliterator"), (0, .class_ 630), (0, u "java/lang/StringUTF16$CharsSpliterator")] 4

def k12m0 : Method := { name := "<init>", desc := "()V", sig := { parameters := [], returnType := none }, accessFlags := 0, code := none }
def k12c1 : Code := { maxStack := 2, maxLocals := 2, code := jdk_52_method_15_code, exceptionTable := #[], attributes := #[] }
def k12m1 : Method := { name := "coderFromArrayLen", desc := "([BI)B", sig := { parameters := [(.array .byte), .int], returnType := some .byte }, accessFlags := 8, code := some k12c1 }
def k12c2 : Code := { maxStack := 5, maxLocals := 6, code := jdk_52_method_16_code, exceptionTable := #[], attributes := #[] }
def k12m2 : Method := { name := "compress", desc := "([CII)[B", sig := { parameters := [(.array .char), .int, .int], returnType := some (.array .byte) }, accessFlags := 9, code := some k12c2 }
def k12c3 : Code := { maxStack := 3, maxLocals := 7, code := jdk_52_method_21_code, exceptionTable := #[], attributes := #[] }
def k12m3 : Method := { name := "compress", desc := "([CI[BII)I", sig := { parameters := [(.array .char), .int, (.array .byte), .int, .int], returnType := some .int }, accessFlags := 9, code := some k12c3 }
/-- java/lang/StringUTF16 -/
def k12 : Class := { plain "java/lang/StringUTF16" (some 0) with
  accessFlags := 48
  interfaces := #[]
  cf := some (fileOf pool12 12 #[.nestMembers #[627, 629, 369]] #[{ accessFlags := 0, nameIndex := 9, descriptorIndex := 10, attributes := #[] }, { accessFlags := 8, nameIndex := 261, descriptorIndex := 262, attributes := #[] }, { accessFlags := 9, nameIndex := 117, descriptorIndex := 122, attributes := #[] }, { accessFlags := 9, nameIndex := 117, descriptorIndex := 118, attributes := #[] }] 48 6 #[] #[{ accessFlags := 26, nameIndex := 61, descriptorIndex := 62, attributes := #[] }, { accessFlags := 26, nameIndex := 65, descriptorIndex := 62, attributes := #[] }, { accessFlags := 24, nameIndex := 430, descriptorIndex := 62, attributes := #[] }, { accessFlags := 4120, nameIndex := 46, descriptorIndex := 47, attributes := #[] }])
  fields := #[{ name := "HI_BYTE_SHIFT", type := .int, accessFlags := 26, slot := 0, constantValue := 0 }, { name := "LO_BYTE_SHIFT", type := .int, accessFlags := 26, slot := 1, constantValue := 0 }, { name := "MAX_LENGTH", type := .int, accessFlags := 24, slot := 2, constantValue := 0 }, { name := "$assertionsDisabled", type := .boolean, accessFlags := 4120, slot := 3, constantValue := 0 }]
  methods := #[k12m0, k12m1, k12m2, k12m3]
  instanceTypes := #[]
  staticTypes := #[.int, .int, .int, .boolean]
  resolved := Array.replicate 635 none
  statics := none }

def pool13 : Array CpInfo := pool [(4, .class_ 6), (1, u "java/lang/Object"), (0, u "<init>"), (0, u "()V"), (5, .class_ 16), (1, u "java/lang/StringLatin1"), (104, u "$assertionsDisabled"), (0, u "Z"), (98, .class_ 223), (1, u "java/lang/StringLatin1$LinesSpliterator"), (166, .class_ 391), (0, u "java/lang/StringLatin1$CharsSpliterator")] 3

def k13m0 : Method := { name := "<init>", desc := "()V", sig := { parameters := [], returnType := none }, accessFlags := 0, code := none }
/-- java/lang/StringLatin1 -/
def k13 : Class := { plain "java/lang/StringLatin1" (some 0) with
  accessFlags := 48
  interfaces := #[]
  cf := some (fileOf pool13 14 #[.nestMembers #[390, 221]] #[{ accessFlags := 0, nameIndex := 7, descriptorIndex := 8, attributes := #[] }] 48 4 #[] #[{ accessFlags := 4120, nameIndex := 121, descriptorIndex := 122, attributes := #[] }])
  fields := #[{ name := "$assertionsDisabled", type := .boolean, accessFlags := 4120, slot := 0, constantValue := 0 }]
  methods := #[k13m0]
  instanceTypes := #[]
  staticTypes := #[.boolean]
  resolved := Array.replicate 395 none
  statics := none }

def pool14 : Array CpInfo := pool [(2, .class_ 4), (1, u "java/lang/Object"), (0, u "<init>"), (0, u "()V"), (17, .class_ 26), (1, u "jdk/internal/util/Preconditions"), (28, .class_ 56), (0, u "jdk/internal/util/Preconditions$4"), (57, .class_ 115), (0, u "jdk/internal/util/Preconditions$1"), (7, u "SIOOBE_FORMATTER"), (0, u "Ljava/util/function/BiFunction;"), (0, .class_ 126), (0, u "jdk/internal/util/Preconditions$2"), (3, u "AIOOBE_FORMATTER"), (0, .class_ 132), (0, u "jdk/internal/util/Preconditions$3"), (3, u "IOOBE_FORMATTER")] 57

def k14m0 : Method := { name := "<init>", desc := "()V", sig := { parameters := [], returnType := none }, accessFlags := 1, code := none }
/-- jdk/internal/util/Preconditions -/
def k14 : Class := { plain "jdk/internal/util/Preconditions" (some 0) with
  accessFlags := 33
  interfaces := #[]
  cf := some (fileOf pool14 24 #[.nestMembers #[55, 131, 125, 114]] #[{ accessFlags := 1, nameIndex := 5, descriptorIndex := 6, attributes := #[] }] 33 2 #[] #[{ accessFlags := 25, nameIndex := 123, descriptorIndex := 124, attributes := #[] }, { accessFlags := 25, nameIndex := 130, descriptorIndex := 124, attributes := #[] }, { accessFlags := 25, nameIndex := 136, descriptorIndex := 124, attributes := #[] }])
  fields := #[{ name := "SIOOBE_FORMATTER", type := (.object "java/util/function/BiFunction"), accessFlags := 25, slot := 0, constantValue := 0 }, { name := "AIOOBE_FORMATTER", type := (.object "java/util/function/BiFunction"), accessFlags := 25, slot := 1, constantValue := 0 }, { name := "IOOBE_FORMATTER", type := (.object "java/util/function/BiFunction"), accessFlags := 25, slot := 2, constantValue := 0 }]
  methods := #[k14m0]
  instanceTypes := #[]
  staticTypes := #[(.object "java/util/function/BiFunction"), (.object "java/util/function/BiFunction"), (.object "java/util/function/BiFunction")]
  resolved := Array.replicate 194 none
  statics := some 2 }

def pool15 : Array CpInfo := pool [(9, u "<init>"), (6, .class_ 18), (1, u "java/lang/Object"), (0, u "()V"), (1, .class_ 23), (1, u "jdk/internal/util/ArraysSupport"), (0, u "LOG2_ARRAY_LONG_INDEX_SCALE"), (0, u "I"), (2, u "U"), (0, u "Ljdk/internal/misc/Unsafe;"), (8, u "BIG_ENDIAN"), (0, u "Z"), (8, u "LOG2_BYTE_BIT_SIZE"), (4, u "LOG2_ARRAY_INT_INDEX_SCALE"), (54, u "JLA"), (0, u "Ljdk/internal/access/JavaLangAccess;"), (11, u "LOG2_ARRAY_BOOLEAN_INDEX_SCALE"), (9, u "LOG2_ARRAY_BYTE_INDEX_SCALE"), (5, u "LOG2_ARRAY_CHAR_INDEX_SCALE"), (5, u "LOG2_ARRAY_SHORT_INDEX_SCALE"), (18, u "LOG2_ARRAY_FLOAT_INDEX_SCALE"), (24, u "LOG2_ARRAY_DOUBLE_INDEX_SCALE"), (89, u "T_BOOLEAN"), (2, u "T_CHAR"), (1, u "T_FLOAT"), (1, u "T_DOUBLE"), (1, u "T_BYTE"), (1, u "T_SHORT"), (1, u "T_INT"), (1, u "T_LONG"), (1, u "SOFT_MAX_ARRAY_LENGTH")] 83

def k15m0 : Method := { name := "<init>", desc := "()V", sig := { parameters := [], returnType := none }, accessFlags := 2, code := none }
/-- jdk/internal/util/ArraysSupport -/
def k15 : Class := { plain "jdk/internal/util/ArraysSupport" (some 0) with
  accessFlags := 33
  interfaces := #[]
  cf := some (fileOf pool15 21 #[] #[{ accessFlags := 2, nameIndex := 9, descriptorIndex := 19, attributes := #[] }] 33 16 #[] #[{ accessFlags := 24, nameIndex := 28, descriptorIndex := 29, attributes := #[] }, { accessFlags := 26, nameIndex := 38, descriptorIndex := 39, attributes := #[] }, { accessFlags := 25, nameIndex := 121, descriptorIndex := 25, attributes := #[] }, { accessFlags := 25, nameIndex := 131, descriptorIndex := 25, attributes := #[] }, { accessFlags := 25, nameIndex := 137, descriptorIndex := 25, attributes := #[] }, { accessFlags := 25, nameIndex := 143, descriptorIndex := 25, attributes := #[] }, { accessFlags := 25, nameIndex := 53, descriptorIndex := 25, attributes := #[] }, { accessFlags := 25, nameIndex := 24, descriptorIndex := 25, attributes := #[] }, { accessFlags := 25, nameIndex := 162, descriptorIndex := 25, attributes := #[] }, { accessFlags := 25, nameIndex := 187, descriptorIndex := 25, attributes := #[] }, { accessFlags := 26, nameIndex := 48, descriptorIndex := 25, attributes := #[] }, { accessFlags := 25, nameIndex := 277, descriptorIndex := 25, attributes := #[] }, { accessFlags := 25, nameIndex := 280, descriptorIndex := 25, attributes := #[] }, { accessFlags := 25, nameIndex := 282, descriptorIndex := 25, attributes := #[] }, { accessFlags := 25, nameIndex := 284, descriptorIndex := 25, attributes := #[] }, { accessFlags := 25, nameIndex := 286, descriptorIndex := 25, attributes := #[] }, { accessFlags := 25, nameIndex := 288, descriptorIndex := 25, attributes := #[] }, { accessFlags := 25, nameIndex := 290, descriptorIndex := 25, attributes := #[] }, { accessFlags := 25, nameIndex := 292, descriptorIndex := 25, attributes := #[] }, { accessFlags := 26, nameIndex := 108, descriptorIndex := 109, attributes := #[] }, { accessFlags := 25, nameIndex := 294, descriptorIndex := 25, attributes := #[] }])
  fields := #[{ name := "U", type := (.object "jdk/internal/misc/Unsafe"), accessFlags := 24, slot := 0, constantValue := 0 }, { name := "BIG_ENDIAN", type := .boolean, accessFlags := 26, slot := 1, constantValue := 0 }, { name := "LOG2_ARRAY_BOOLEAN_INDEX_SCALE", type := .int, accessFlags := 25, slot := 2, constantValue := 0 }, { name := "LOG2_ARRAY_BYTE_INDEX_SCALE", type := .int, accessFlags := 25, slot := 3, constantValue := 0 }, { name := "LOG2_ARRAY_CHAR_INDEX_SCALE", type := .int, accessFlags := 25, slot := 4, constantValue := 0 }, { name := "LOG2_ARRAY_SHORT_INDEX_SCALE", type := .int, accessFlags := 25, slot := 5, constantValue := 0 }, { name := "LOG2_ARRAY_INT_INDEX_SCALE", type := .int, accessFlags := 25, slot := 6, constantValue := 0 }, { name := "LOG2_ARRAY_LONG_INDEX_SCALE", type := .int, accessFlags := 25, slot := 7, constantValue := 0 }, { name := "LOG2_ARRAY_FLOAT_INDEX_SCALE", type := .int, accessFlags := 25, slot := 8, constantValue := 0 }, { name := "LOG2_ARRAY_DOUBLE_INDEX_SCALE", type := .int, accessFlags := 25, slot := 9, constantValue := 0 }, { name := "LOG2_BYTE_BIT_SIZE", type := .int, accessFlags := 26, slot := 10, constantValue := 0 }, { name := "T_BOOLEAN", type := .int, accessFlags := 25, slot := 11, constantValue := 0 }, { name := "T_CHAR", type := .int, accessFlags := 25, slot := 12, constantValue := 0 }, { name := "T_FLOAT", type := .int, accessFlags := 25, slot := 13, constantValue := 0 }, { name := "T_DOUBLE", type := .int, accessFlags := 25, slot := 14, constantValue := 0 }, { name := "T_BYTE", type := .int, accessFlags := 25, slot := 15, constantValue := 0 }, { name := "T_SHORT", type := .int, accessFlags := 25, slot := 16, constantValue := 0 }, { name := "T_INT", type := .int, accessFlags := 25, slot := 17, constantValue := 0 }, { name := "T_LONG", type := .int, accessFlags := 25, slot := 18, constantValue := 0 }, { name := "JLA", type := (.object "jdk/internal/access/JavaLangAccess"), accessFlags := 26, slot := 19, constantValue := 0 }, { name := "SOFT_MAX_ARRAY_LENGTH", type := .int, accessFlags := 25, slot := 20, constantValue := 0 }]
  methods := #[k15m0]
  instanceTypes := #[]
  staticTypes := #[(.object "jdk/internal/misc/Unsafe"), .boolean, .int, .int, .int, .int, .int, .int, .int, .int, .int, .int, .int, .int, .int, .int, .int, .int, .int, (.object "jdk/internal/access/JavaLangAccess"), .int]
  resolved := Array.replicate 378 none
  statics := none }

def pool16 : Array CpInfo := pool [(1, u "java/lang/Cloneable"), (0, .class_ 1), (0, u "java/lang/Object"), (0, .class_ 3)] 3

/-- java/lang/Cloneable -/
def k16 : Class := { plain "java/lang/Cloneable" (some 0) with
  accessFlags := 1537
  interfaces := #[]
  cf := some (fileOf pool16 2 #[] #[] 1537 4 #[] #[])
  fields := #[]
  methods := #[]
  instanceTypes := #[]
  staticTypes := #[]
  resolved := Array.replicate 8 none
  statics := none }

/-- the primitive byte -/
def k17 : Class := { plain "byte" none with kind := .primitive 'B', accessFlags := 0x411 }
/-- [B -/
def k18 : Class := { plain "[B" (some 0) with kind := .array 17 .byte, interfaces := #[16, 6], accessFlags := 1041 }

/-- the primitive char -/
def k19 : Class := { plain "char" none with kind := .primitive 'C', accessFlags := 0x411 }
/-- [C -/
def k20 : Class := { plain "[C" (some 0) with kind := .array 19 .char, interfaces := #[16, 6], accessFlags := 1041 }

/-- the primitive int -/
def k21 : Class := { plain "int" none with kind := .primitive 'I', accessFlags := 0x411 }
/-- [I -/
def k22 : Class := { plain "[I" (some 0) with kind := .array 21 .int, interfaces := #[16, 6], accessFlags := 1041 }

def heap : Heap := #[{ cls := 8, slots := #[.ref 3, .ref 4, .ref 5, .ref 6, .ref 7, .null], vm := .statics 8 },
  { cls := 11, slots := #[.long 0, .int 1, .null, .int 0, .null, .int 0, .int 0], vm := .statics 11 },
  { cls := 14, slots := #[.null, .null, .null], vm := .statics 14 },
  { cls := 8, slots := #[.null, .int 0, .int 0, .null, .null], vm := .none },
  { cls := 8, slots := #[.null, .int 1, .int 0, .null, .null], vm := .none },
  { cls := 8, slots := #[.null, .int 2, .int 0, .null, .null], vm := .none },
  { cls := 8, slots := #[.null, .int 3, .int 0, .null, .null], vm := .none },
  { cls := 8, slots := #[.null, .int 4, .int 0, .null, .null], vm := .none }]
def classes : Array Class := #[k0, k1, k2, k3, k4, k5, k6, k7, k8, k9, k10, k11, k12, k13, k14, k15, k16, k17, k18, k19, k20, k21, k22]
def interned : List (Array UInt16 × Addr) := []
def slotsUsed : Nat := 41
def theMethod : MethodId := ⟨1, 3⟩
def args0 : Array Value := #[.int 1, .int 2, .int 3, .int 4]
def aboutOver (below : List Frame) : State where
  vm := { classes := classes, interned := interned.toArray }
  heap := heap
  slotsUsed := slotsUsed
  threads := #[{ frames := .invoking theMethod args0 :: below }]
def below0 : List Frame := [.native { method := ⟨0, 0⟩, args := #[] }]
def about1 : State := aboutOver below0
def p0 : Program := .bare "" "" ""
def e0 : Env := launch0.env 0 0 0
theorem w_frames : about1.frames = Frame.invoking theMethod args0 :: below0 := rfl
set_option maxRecDepth 65536 in
theorem w_args : argsFit about1.vm theMethod args0 = true := by decide +kernel
set_option maxRecDepth 65536 in
theorem w_heap : heapFits about1 = true := by decide +kernel
set_option maxRecDepth 65536 in
theorem w_runnable : about1.curStatus? = some .runnable := by decide +kernel
set_option maxRecDepth 65536 in
theorem w_alone : about1.alone = true := by decide +kernel
set_option maxRecDepth 65536 in
theorem w_named : about1.methodNamed? x = some theMethod := by decide +kernel
set_option maxRecDepth 65536 in
theorem w_hears : about1.hears theMethod below0 = true := by decide +kernel
set_option maxRecDepth 65536 in
theorem w_ripe : about1.ripe theMethod args0 below0 = true := by decide +kernel
theorem w_running : about1.status = .running := rfl
set_option maxRecDepth 65536 in
theorem w_room : about1.hasRoom e0.platform room_1 = true :=
  launch0.hasRoom_least _ room_1 (by decide +kernel) (by decide +kernel) (by decide +kernel) (by decide +kernel) (by decide +kernel) (by decide +kernel)
theorem allAtoms_all (ts : List Jvm.Cond) (a : Array Jvm.Value) (st : Jvm.State) : (allAtoms ts).before a st = ts.all (fun c => c.before a st) := by
  induction ts with
  | nil => rfl
  | cons c t ih =>
    show (Jvm.Cond.and c (allAtoms t)).before a st = _
    rw [Jvm.Cond.before_and, ih, List.all_cons]
def words1 : List Jvm.Cond := Jvm.Cond.code x code maxLocals ret :: tables_1
/-- a 'code' word, met by the world's own term for the bytes: nothing is compared byte by byte -/
theorem code_word {y : MethodName} {bytes : ByteArray} {mx : Nat} {rt : Option FieldType} {a : Array Value} {s : State} {m : MethodId} {meth : Method} {c : Code} (h1 : s.methodNamed? y = some m) (h2 : s.vm.method? m = some meth) (h3 : meth.code = some c) (h4 : c.code = bytes)
    (h5 : (c.maxLocals == mx && c.exceptionTable.isEmpty && decide (c.maxStack ≤ mostOperands) && decide (meth.sig.returnType = rt) && !meth.locks && decide (parseMethodDescriptor y.desc = some meth.sig)) = true) : (Jvm.Cond.code y bytes mx rt).before a s = true := by
  simp only [Bool.and_eq_true, beq_iff_eq, Bool.not_eq_true', decide_eq_true_eq] at h5
  obtain ⟨⟨⟨⟨⟨g1, g2⟩, g3⟩, g4⟩, g5⟩, g6⟩ := h5
  simp [Cond.before, Cond.holds, Cond.value, h1, h2, h3, h4, g1, g2, g3, g4, g5, g6]
def isCode : Jvm.Cond → Bool
  | .code _ _ _ _ => true
  | _ => false
theorem all_split {L : List Jvm.Cond} {P : Jvm.Cond → Bool} (h1 : L.all (fun c => isCode c || P c) = true) (h2 : ∀ c ∈ L.filter isCode, P c = true) : L.all P = true := by
  refine List.all_eq_true.mpr fun c hc => ?_
  have h := List.all_eq_true.mp h1 c hc
  rcases Bool.eq_false_or_eq_true (isCode c) with hi | hi
  · exact h2 c (List.mem_filter.mpr ⟨hc, hi⟩)
  · simpa [hi] using h
set_option maxRecDepth 65536 in
theorem w_c0 : (Jvm.Cond.code x code maxLocals ret).before args0 about1 = true := code_word (m := ⟨1, 3⟩) (meth := k1m3) (c := k1c3) (by decide +kernel) rfl rfl rfl (by decide +kernel)
set_option maxRecDepth 65536 in
theorem w_c1 : (Jvm.Cond.code ({ cls := "com/example/inchworm/inchworm/query/NodeTestMayMatchPinLaw", name := "kindOf", desc := "(I)Lcom/example/inchworm/inchworm/label/NodeKind;" } : Jvm.MethodName) method_2_code (1 : Nat) (Option.some (Jvm.ClassFile.FieldType.object "com/example/inchworm/inchworm/label/NodeKind"))).before args0 about1 = true := code_word (m := ⟨1, 1⟩) (meth := k1m1) (c := k1c1) (by decide +kernel) rfl rfl rfl (by decide +kernel)
set_option maxRecDepth 65536 in
theorem w_c2 : (Jvm.Cond.code ({ cls := "com/example/inchworm/inchworm/query/NodeTestMayMatchPinLaw", name := "drawn", desc := "(I)Ljava/lang/String;" } : Jvm.MethodName) method_3_code (1 : Nat) (Option.some (Jvm.ClassFile.FieldType.object "java/lang/String"))).before args0 about1 = true := code_word (m := ⟨1, 2⟩) (meth := k1m2) (c := k1c2) (by decide +kernel) rfl rfl rfl (by decide +kernel)
set_option maxRecDepth 65536 in
theorem w_c3 : (Jvm.Cond.code ({ cls := "java/lang/String", name := "<init>", desc := "([C)V" } : Jvm.MethodName) jdk_42_method_3_code (2 : Nat) (Option.none : Option Jvm.ClassFile.FieldType)).before args0 about1 = true := code_word (m := ⟨11, 1⟩) (meth := k11m1) (c := k11c1) (by decide +kernel) rfl rfl rfl (by decide +kernel)
set_option maxRecDepth 65536 in
theorem w_c4 : (Jvm.Cond.code ({ cls := "java/lang/String", name := "<init>", desc := "([CIILjava/lang/Void;)V" } : Jvm.MethodName) jdk_42_method_149_code (6 : Nat) (Option.none : Option Jvm.ClassFile.FieldType)).before args0 about1 = true := code_word (m := ⟨11, 2⟩) (meth := k11m2) (c := k11c2) (by decide +kernel) rfl rfl rfl (by decide +kernel)
set_option maxRecDepth 65536 in
theorem w_c5 : (Jvm.Cond.code ({ cls := "java/lang/Object", name := "<init>", desc := "()V" } : Jvm.MethodName) object_method_1_code (1 : Nat) (Option.none : Option Jvm.ClassFile.FieldType)).before args0 about1 = true := code_word (m := ⟨0, 0⟩) (meth := k0m0) (c := k0c0) (by decide +kernel) rfl rfl rfl (by decide +kernel)
set_option maxRecDepth 65536 in
theorem w_c6 : (Jvm.Cond.code ({ cls := "java/lang/StringUTF16", name := "compress", desc := "([CII)[B" } : Jvm.MethodName) jdk_52_method_16_code (6 : Nat) (Option.some (Jvm.ClassFile.FieldType.array Jvm.ClassFile.FieldType.byte))).before args0 about1 = true := code_word (m := ⟨12, 2⟩) (meth := k12m2) (c := k12c2) (by decide +kernel) rfl rfl rfl (by decide +kernel)
set_option maxRecDepth 65536 in
theorem w_c7 : (Jvm.Cond.code ({ cls := "java/lang/StringUTF16", name := "compress", desc := "([CI[BII)I" } : Jvm.MethodName) jdk_52_method_21_code (7 : Nat) (Option.some Jvm.ClassFile.FieldType.int)).before args0 about1 = true := code_word (m := ⟨12, 3⟩) (meth := k12m3) (c := k12c3) (by decide +kernel) rfl rfl rfl (by decide +kernel)
set_option maxRecDepth 65536 in
theorem w_c8 : (Jvm.Cond.code ({ cls := "java/lang/StringUTF16", name := "coderFromArrayLen", desc := "([BI)B" } : Jvm.MethodName) jdk_52_method_15_code (2 : Nat) (Option.some Jvm.ClassFile.FieldType.byte)).before args0 about1 = true := code_word (m := ⟨12, 1⟩) (meth := k12m1) (c := k12c1) (by decide +kernel) rfl rfl rfl (by decide +kernel)
set_option maxRecDepth 65536 in
theorem w_c9 : (Jvm.Cond.code ({ cls := "com/example/inchworm/inchworm/query/NodeTest", name := "<init>", desc := "(Lcom/example/inchworm/inchworm/label/NodeKind;Ljava/lang/String;Ljava/lang/String;)V" } : Jvm.MethodName) prog_56_method_1_code (4 : Nat) (Option.none : Option Jvm.ClassFile.FieldType)).before args0 about1 = true := code_word (m := ⟨3, 0⟩) (meth := k3m0) (c := k3c0) (by decide +kernel) rfl rfl rfl (by decide +kernel)
set_option maxRecDepth 65536 in
theorem w_c10 : (Jvm.Cond.code ({ cls := "java/lang/Record", name := "<init>", desc := "()V" } : Jvm.MethodName) jdk_30_method_1_code (1 : Nat) (Option.none : Option Jvm.ClassFile.FieldType)).before args0 about1 = true := code_word (m := ⟨2, 0⟩) (meth := k2m0) (c := k2c0) (by decide +kernel) rfl rfl rfl (by decide +kernel)
set_option maxRecDepth 65536 in
theorem w_c11 : (Jvm.Cond.code ({ cls := "com/example/inchworm/inchworm/query/NodeTest", name := "mayMatch", desc := "(Lcom/example/inchworm/inchworm/label/NodeKind;)Z" } : Jvm.MethodName) prog_56_method_4_code (2 : Nat) (Option.some Jvm.ClassFile.FieldType.boolean)).before args0 about1 = true := code_word (m := ⟨3, 1⟩) (meth := k3m1) (c := k3c1) (by decide +kernel) rfl rfl rfl (by decide +kernel)
def codes1 : List Jvm.Cond := [Jvm.Cond.code x code maxLocals ret, Jvm.Cond.code ({ cls := "com/example/inchworm/inchworm/query/NodeTestMayMatchPinLaw", name := "kindOf", desc := "(I)Lcom/example/inchworm/inchworm/label/NodeKind;" } : Jvm.MethodName) method_2_code (1 : Nat) (Option.some (Jvm.ClassFile.FieldType.object "com/example/inchworm/inchworm/label/NodeKind")), Jvm.Cond.code ({ cls := "com/example/inchworm/inchworm/query/NodeTestMayMatchPinLaw", name := "drawn", desc := "(I)Ljava/lang/String;" } : Jvm.MethodName) method_3_code (1 : Nat) (Option.some (Jvm.ClassFile.FieldType.object "java/lang/String")), Jvm.Cond.code ({ cls := "java/lang/String", name := "<init>", desc := "([C)V" } : Jvm.MethodName) jdk_42_method_3_code (2 : Nat) (Option.none : Option Jvm.ClassFile.FieldType), Jvm.Cond.code ({ cls := "java/lang/String", name := "<init>", desc := "([CIILjava/lang/Void;)V" } : Jvm.MethodName) jdk_42_method_149_code (6 : Nat) (Option.none : Option Jvm.ClassFile.FieldType), Jvm.Cond.code ({ cls := "java/lang/Object", name := "<init>", desc := "()V" } : Jvm.MethodName) object_method_1_code (1 : Nat) (Option.none : Option Jvm.ClassFile.FieldType), Jvm.Cond.code ({ cls := "java/lang/StringUTF16", name := "compress", desc := "([CII)[B" } : Jvm.MethodName) jdk_52_method_16_code (6 : Nat) (Option.some (Jvm.ClassFile.FieldType.array Jvm.ClassFile.FieldType.byte)), Jvm.Cond.code ({ cls := "java/lang/StringUTF16", name := "compress", desc := "([CI[BII)I" } : Jvm.MethodName) jdk_52_method_21_code (7 : Nat) (Option.some Jvm.ClassFile.FieldType.int), Jvm.Cond.code ({ cls := "java/lang/StringUTF16", name := "coderFromArrayLen", desc := "([BI)B" } : Jvm.MethodName) jdk_52_method_15_code (2 : Nat) (Option.some Jvm.ClassFile.FieldType.byte), Jvm.Cond.code ({ cls := "com/example/inchworm/inchworm/query/NodeTest", name := "<init>", desc := "(Lcom/example/inchworm/inchworm/label/NodeKind;Ljava/lang/String;Ljava/lang/String;)V" } : Jvm.MethodName) prog_56_method_1_code (4 : Nat) (Option.none : Option Jvm.ClassFile.FieldType), Jvm.Cond.code ({ cls := "java/lang/Record", name := "<init>", desc := "()V" } : Jvm.MethodName) jdk_30_method_1_code (1 : Nat) (Option.none : Option Jvm.ClassFile.FieldType), Jvm.Cond.code ({ cls := "com/example/inchworm/inchworm/query/NodeTest", name := "mayMatch", desc := "(Lcom/example/inchworm/inchworm/label/NodeKind;)Z" } : Jvm.MethodName) prog_56_method_4_code (2 : Nat) (Option.some Jvm.ClassFile.FieldType.boolean)]
set_option maxRecDepth 65536 in
theorem codes_eq : words1.filter isCode = codes1 := rfl
theorem w_codes : ∀ c ∈ words1.filter isCode, c.before args0 about1 = true := by
  rw [codes_eq]
  intro c hc
  simp only [codes1, List.mem_cons, List.not_mem_nil, or_false] at hc
  rcases hc with rfl | rfl | rfl | rfl | rfl | rfl | rfl | rfl | rfl | rfl | rfl | rfl
  · exact w_c0
  · exact w_c1
  · exact w_c2
  · exact w_c3
  · exact w_c4
  · exact w_c5
  · exact w_c6
  · exact w_c7
  · exact w_c8
  · exact w_c9
  · exact w_c10
  · exact w_c11
set_option maxRecDepth 65536 in
theorem w_t1 : (words1.take 24).all (fun c => isCode c || c.before args0 about1) = true := by decide +kernel
set_option maxRecDepth 65536 in
theorem w_t2 : ((words1.drop 24).take 24).all (fun c => isCode c || c.before args0 about1) = true := by decide +kernel
set_option maxRecDepth 65536 in
theorem w_t3 : (((words1.drop 24).drop 24).take 24).all (fun c => isCode c || c.before args0 about1) = true := by decide +kernel
set_option maxRecDepth 65536 in
theorem w_t4 : (((words1.drop 24).drop 24).drop 24).all (fun c => isCode c || c.before args0 about1) = true := by decide +kernel
theorem w_tables : (allAtoms (Jvm.Cond.code x code maxLocals ret :: tables_1)).before args0 about1 = true := by
  rw [allAtoms_all]
  show words1.all (fun c => c.before args0 about1) = true
  refine all_split ?_ w_codes
  rw [← List.take_append_drop 24 words1, List.all_append, w_t1, ← List.take_append_drop 24 (words1.drop 24), List.all_append, w_t2, ← List.take_append_drop 24 ((words1.drop 24).drop 24), List.all_append, w_t3, w_t4]
  rfl
set_option maxRecDepth 65536 in
theorem w_rest : rest_1_c.before args0 about1 = true := by decide +kernel
set_option maxRecDepth 65536 in
theorem w_case : (Jvm.Cond.and given_1 narrow_1).before args0 about1 = true := by decide +kernel
theorem w_applies : (headSpec (Jvm.Cond.code x code maxLocals ret :: tables_1) room_1).applies x e0.platform about1 = true :=
  (Spec.applies_iff w_frames).mpr ⟨w_running, w_runnable, w_alone, w_named, w_hears, w_ripe, w_room, w_tables⟩
theorem atStart : AtStart classFile x code maxLocals ret World_1 tables_1 room_1 Calls_1 rest_1 Pre_1 launch0 p0 e0 about1 theMethod args0 below0 :=
  ⟨lists_1, trivial, launch0.admits_env _ _ _, launch0.least_env, fairChoices_fair.cas, fairChoices_fair.clock, w_frames, w_args, w_heap, w_applies, trivial, w_rest, w_case⟩
end start1
theorem witness_1 : WitnessClaimed_1 := ⟨start1.p0, start1.e0, start1.about1, start1.theMethod, start1.args0, start1.below0, start1.atStart⟩
end Jvm.Pilot.@@N@@
