import JvmDerived
import JvmDerived.Pilot.@@N@@Statement
import JvmDerived.Pilot.@@N@@Code
set_option linter.unusedVariables false
set_option linter.unusedSimpArgs false
/- laws to paste: Road.backV (cut by pick.py; bodies as the Statement names them) -/
namespace Jvm.Pilot.@@N@@
namespace StrChars
open Jvm Sem ClassFile Op Lib Jvm.Stand Jvm.Free.XT Jvm.Free.ALB Jvm.Free.JM Jvm.Free
open Jvm.Lib.Cold (StaticIs)
/-- a char array whose places are chars -/
def Ch (a : Addr) (A : Cell) (U : State) : Prop := Arr .char a A U ∧ Typed .char A
theorem Ch.mv {a : Addr} {A : Cell} {U U' : State} (h : Ch a A U) (hal : U.vm.Alike U'.vm) (hh : U'.heap = U.heap) : Ch a A U' := ⟨h.1.mv hal hh, h.2⟩
theorem Ch.keep {a : Addr} {A : Cell} {U U' : State} (h : Ch a A U) (hal : U.vm.Alike U'.vm) (hk : U'.heap[a]? = some A) : Ch a A U' := ⟨h.1.keep hal hk, h.2⟩
/-- what place i of a char[]'s cell holds -/
def cv (A : Cell) (i : Nat) : Int32 := match A.slots[i]? with | some (.int x) => x | _ => 0
theorem Ch.get {a : Addr} {A : Cell} {U : State} (h : Ch a A U) {i : Nat} (hi : i < A.slots.size) : A.slots[i]? = some (.int (cv A i)) := by
  have e := Array.getElem?_eq_getElem hi
  have f := h.2 i _ e
  unfold cv; rw [e]
  generalize A.slots[i] = v at f
  cases v <;> simp [fits] at f ⊢
/-- the byte that i2b leaves of a char -/
def lo8 (x : Int32) : Int32 := x.toInt8.toInt32
theorem fits_lo8 (y : Int32) : fits .byte (.int (lo8 y)) = true := by
  have h1 := y.toInt8.le_toInt
  have h2 := y.toInt8.toInt_lt
  simp only [lo8, fits, Bool.and_eq_true, decide_eq_true_eq, Int32.le_iff_toInt_le, Int8.toInt_toInt32, show (-128 : Int32).toInt = -128 from by decide, show (127 : Int32).toInt = 127 from by decide]
  omega
/-- A' is A but that each place j of lo .. hi - 1 holds f j -/
def Laid (A A' : Cell) (lo hi : Nat) (f : Nat → Value) : Prop := A'.cls = A.cls ∧ A'.vm = A.vm ∧ A'.slots.size = A.slots.size ∧ ∀ i, A'.slots[i]? = if lo ≤ i ∧ i < hi then some (f i) else A.slots[i]?
theorem Laid.zero (A : Cell) (lo : Nat) (f : Nat → Value) : Laid A A lo (lo + 0) f := ⟨rfl, rfl, rfl, fun i => by rw [if_neg (by omega)]⟩
theorem Laid.step {A Ak : Cell} {lo k : Nat} {f : Nat → Value} {v : Value} (h : Laid A Ak lo k f) (hlo : lo ≤ k) (hk : k < Ak.slots.size) (hv : v = f k) : Laid A (Ak.setSlot k v) lo (k + 1) f := by
  refine ⟨h.1, h.2.1, by simpa [Cell.setSlot] using h.2.2.1, fun i => ?_⟩
  by_cases e : k = i
  · subst e; rw [Cell.slots_setSlot_self v hk, if_pos (by omega), hv]
  · rw [Cell.slots_setSlot_ne v e, h.2.2.2 i]
    by_cases q : lo ≤ i ∧ i < k
    · rw [if_pos q, if_pos (by omega)]
    · rw [if_neg q, if_neg (by omega)]
def U16 : String := "java/lang/StringUTF16"
namespace Cmp5
def yN : MethodName := ⟨"java/lang/StringUTF16", "compress", "([CI[BII)I"⟩
abbrev yB : ByteArray := jdk_52_method_21_code
theorem d0 : decode yB 0 = .ok (.iconst 0, 1) := by decide +kernel
theorem d1 : decode yB 1 = .ok (.istore 5, 2) := by decide +kernel
theorem d3 : decode yB 3 = .ok (.iload 5, 2) := by decide +kernel
theorem d5 : decode yB 5 = .ok (.iload 4, 2) := by decide +kernel
theorem d7 : decode yB 7 = .ok (.if_icmp (.ge) 37, 3) := by decide +kernel
theorem d10 : decode yB 10 = .ok (.aload_n 0, 1) := by decide +kernel
theorem d11 : decode yB 11 = .ok (.iload_n 1, 1) := by decide +kernel
theorem d12 : decode yB 12 = .ok (.caload, 1) := by decide +kernel
theorem d13 : decode yB 13 = .ok (.istore 6, 2) := by decide +kernel
theorem d15 : decode yB 15 = .ok (.iload 6, 2) := by decide +kernel
theorem d17 : decode yB 17 = .ok (.sipush 255, 3) := by decide +kernel
theorem d20 : decode yB 20 = .ok (.if_icmp (.le) 6, 3) := by decide +kernel
theorem d26 : decode yB 26 = .ok (.aload_n 2, 1) := by decide +kernel
theorem d27 : decode yB 27 = .ok (.iload_n 3, 1) := by decide +kernel
theorem d28 : decode yB 28 = .ok (.iload 6, 2) := by decide +kernel
theorem d30 : decode yB 30 = .ok (.i2b, 1) := by decide +kernel
theorem d31 : decode yB 31 = .ok (.bastore, 1) := by decide +kernel
theorem d32 : decode yB 32 = .ok (.iinc 1 1, 3) := by decide +kernel
theorem d35 : decode yB 35 = .ok (.iinc 3 1, 3) := by decide +kernel
theorem d38 : decode yB 38 = .ok (.iinc 5 1, 3) := by decide +kernel
theorem d41 : decode yB 41 = .ok (.goto (-38), 3) := by decide +kernel
theorem d44 : decode yB 44 = .ok (.iload 4, 2) := by decide +kernel
theorem d46 : decode yB 46 = .ok (.ireturn, 1) := by decide +kernel
def site : List Cond := []
def tab : Cond := tabOf yN yB 7 (some .int) site
def P (b : Addr) (A : Cell) (d : Addr) (B : Cell) (o q len : Nat) (args : Array Value) (s : State) : Prop := args = #[.ref b, .int (Int32.ofNat o), .ref d, .int (Int32.ofNat q), .int (Int32.ofNat len)] ∧ Ch b A s ∧ Arr .byte d B s ∧ b ≠ d ∧ o + len ≤ A.slots.size ∧ q + len ≤ B.slots.size ∧ ∀ i, i < len → ¬ 255 < cv A (o + i)
def E (b : Addr) (A : Cell) (d : Addr) (B : Cell) (o q len : Nat) (r : Option Value) (s u : State) : Prop := r = some (.int (Int32.ofNat len)) ∧ ∃ B', Put d B' s u ∧ Laid B B' q (q + len) (fun j => Value.int (lo8 (cv A (o + (j - q)))))
/-- no char of the range above 255: len; the places written hold each char's low byte -/
theorem law (l : Launch) (b : Addr) (A : Cell) (d : Addr) (B : Cell) (o q len : Nat) : Law l yN 5 5 0 0 yB 7 (some .int) site (P b A d B o q len) (E b A d B o q len) (copyLocs d q len) 0 0 := by
  refine Law.of_walk (plainFor_of_name (by decide +kernel)) (by decide +kernel) (by decide +kernel) (by decide) (fun _ _ h => by rw [h.1]; rfl) (fun _ U U' hal hh h => ⟨h.1, h.2.1.mv hal hh, h.2.2.1.mv hal hh, h.2.2.2⟩) (fun r U U' V V' h1 hal h2 h => ⟨h.1, h.2.elim fun B' q => ⟨B', q.1.mv h1 h2, q.2⟩⟩) ?_
  intro p e s m args below meth c s₁ X0 hexec hbytes hml hret hlk hnm hown hh0 W hP
  obtain ⟨rfl, hA, hB, hne, l1, l2, hp⟩ := hP
  have c1 : Steps p.tables e below (s₁.setTop (entryFrame m #[.ref b, .int (Int32.ofNat o), .ref d, .int (Int32.ofNat q), .int (Int32.ofNat len)] 7)) (s₁.setTop (mkF m 0 #[.val (.ref b), .val (.int (Int32.ofNat o)), .val (.ref d), .val (.int (Int32.ofNat q)), .val (.int (Int32.ofNat len)), .unset, .unset] [])) := entry rfl
  have hA0 := hA.1.mv X0.warmed.alike hh0
  have hB0 := hB.mv X0.warmed.alike hh0
  have a31 := hA.1.2.2.2
  have c2 : Steps p.tables e below (s₁.setTop (entryFrame m #[.ref b, .int (Int32.ofNat o), .ref d, .int (Int32.ofNat q), .int (Int32.ofNat len)] 7)) (s₁.setTop (mkF m 3 #[.val (.ref b), .val (.int (Int32.ofNat o)), .val (.ref d), .val (.int (Int32.ofNat q)), .val (.int (Int32.ofNat len)), .val (.int 0), .unset] [])) := c1.trans (by
    refine iconstV X0.here hexec rfl 0 (hb hbytes d0) (by decide) ?_
    refine XS.istore X0.here hexec rfl (hb hbytes d1) rfl rfl ?_
    exact Steps.refl _)
  have loop : ∀ (r i : Nat), i + r = len → ∀ (z : Slot), (z = .unset ∨ ∃ w, z = .val w ∧ w.category = 1) → ∀ (Tl : State) (Bk : Cell), Stand p l e { frames := 0, locals := 0, cells := 0, slots := 0 } s m #[.ref b, .int (Int32.ofNat o), .ref d, .int (Int32.ofNat q), .int (Int32.ofNat len)] below meth c Tl ([] ++ copyLocs d q i) 0 0 → Put d Bk s₁ Tl → Laid B Bk q (q + i) (fun j => Value.int (lo8 (cv A (o + (j - q))))) →
      Steps p.tables e below (s₁.setTop (entryFrame m #[.ref b, .int (Int32.ofNat o), .ref d, .int (Int32.ofNat q), .int (Int32.ofNat len)] 7)) (Tl.setTop (mkF m 3 #[.val (.ref b), .val (.int (Int32.ofNat (o + i))), .val (.ref d), .val (.int (Int32.ofNat (q + i))), .val (.int (Int32.ofNat len)), .val (.int (Int32.ofNat i)), z] [])) → ∃ (T' : State) (B' : Cell) (z' : Slot), Stand p l e { frames := 0, locals := 0, cells := 0, slots := 0 } s m #[.ref b, .int (Int32.ofNat o), .ref d, .int (Int32.ofNat q), .int (Int32.ofNat len)] below meth c T' ([] ++ copyLocs d q len) 0 0 ∧ Put d B' s₁ T' ∧ Laid B B' q (q + len) (fun j => Value.int (lo8 (cv A (o + (j - q))))) ∧
      Steps p.tables e below (s₁.setTop (entryFrame m #[.ref b, .int (Int32.ofNat o), .ref d, .int (Int32.ofNat q), .int (Int32.ofNat len)] 7)) (T'.setTop (mkF m 3 #[.val (.ref b), .val (.int (Int32.ofNat (o + len))), .val (.ref d), .val (.int (Int32.ofNat (q + len))), .val (.int (Int32.ofNat len)), .val (.int (Int32.ofNat len)), z'] [])) := by
    intro r
    induction r with
    | zero =>
      intro i hi z hz Tl Bk Xl pl fl cl
      have hil : i = len := by omega
      rw [hil] at Xl fl cl
      exact ⟨Tl, Bk, z, Xl, pl, fl, cl⟩
    | succ r ih =>
      intro i hi z hz Tl Bk Xl pl fl cl
      have all := X0.warmed.alike.symm.trans Xl.warmed.alike
      have hAl := hA0.keep all (pl.other hne hA0.1)
      have hBk := hB0.like all pl.1 fl.1 fl.2.1 fl.2.2.1
      have hlt : q + i < Bk.slots.size := by rw [fl.2.2.1]; omega
      have c3 : Steps p.tables e below (s₁.setTop (entryFrame m #[.ref b, .int (Int32.ofNat o), .ref d, .int (Int32.ofNat q), .int (Int32.ofNat len)] 7)) (Tl.setTop (mkF m 12 #[.val (.ref b), .val (.int (Int32.ofNat (o + i))), .val (.ref d), .val (.int (Int32.ofNat (q + i))), .val (.int (Int32.ofNat len)), .val (.int (Int32.ofNat i)), z] [.int (Int32.ofNat (o + i)), .ref b])) := cl.trans (by
        refine XS.iload Xl.here hexec rfl (hb hbytes d3) rfl ?_
        refine XS.iload Xl.here hexec rfl (hb hbytes d5) rfl ?_
        refine XS.icmpNo Xl.here hexec rfl (hb hbytes d7) rfl (ii_ge_f (lt32 (by omega) (by omega))) ?_
        refine XS.aloadN Xl.here hexec rfl (hb hbytes d10) rfl rfl ?_
        refine XS.iloadN Xl.here hexec rfl (hb hbytes d11) rfl ?_
        exact Steps.refl _)
      have c4 : Steps p.tables e below (s₁.setTop (entryFrame m #[.ref b, .int (Int32.ofNat o), .ref d, .int (Int32.ofNat q), .int (Int32.ofNat len)] 7)) (Tl.setTop (mkF m 13 #[.val (.ref b), .val (.int (Int32.ofNat (o + i))), .val (.ref d), .val (.int (Int32.ofNat (q + i))), .val (.int (Int32.ofNat len)), .val (.int (Int32.ofNat i)), z] [.int (cv A (o + i))])) := c3.trans (by
        refine Xl.aget hexec hAl rfl (hA.get (i := o + i) (by omega)) rfl rfl (hb hbytes d12) ?_
        exact Steps.refl _)
      have c5 : Steps p.tables e below (s₁.setTop (entryFrame m #[.ref b, .int (Int32.ofNat o), .ref d, .int (Int32.ofNat q), .int (Int32.ofNat len)] 7)) (Tl.setTop (mkF m 15 #[.val (.ref b), .val (.int (Int32.ofNat (o + i))), .val (.ref d), .val (.int (Int32.ofNat (q + i))), .val (.int (Int32.ofNat len)), .val (.int (Int32.ofNat i)), .val (.int (cv A (o + i)))] [])) := c4.trans (by
        refine XS.istoreS Xl.here hexec rfl (hb hbytes d13) rfl rfl hz ?_
        exact Steps.refl _)
      have c6 : Steps p.tables e below (s₁.setTop (entryFrame m #[.ref b, .int (Int32.ofNat o), .ref d, .int (Int32.ofNat q), .int (Int32.ofNat len)] 7)) (Tl.setTop (mkF m 31 #[.val (.ref b), .val (.int (Int32.ofNat (o + i))), .val (.ref d), .val (.int (Int32.ofNat (q + i))), .val (.int (Int32.ofNat len)), .val (.int (Int32.ofNat i)), .val (.int (cv A (o + i)))] [.int (lo8 (cv A (o + i))), .int (Int32.ofNat (q + i)), .ref d])) := c5.trans (by
        refine XS.iload Xl.here hexec rfl (hb hbytes d15) rfl ?_
        refine sipushV Xl.here hexec rfl 255 (hb hbytes d17) (by decide) ?_
        refine XS.icmpYes Xl.here hexec rfl (pc0 := 20) rfl (hb hbytes d20) rfl (ii_le_t (hp i (by omega))) (by decide) rfl ?_
        refine XS.aloadN Xl.here hexec rfl (hb hbytes d26) rfl rfl ?_
        refine XS.iloadN Xl.here hexec rfl (hb hbytes d27) rfl ?_
        refine XS.iload Xl.here hexec rfl (hb hbytes d28) rfl ?_
        refine i2b Xl.here hexec rfl (hb hbytes d30) rfl ?_
        exact Steps.refl _)
      obtain ⟨T7, X7, p7, st7⟩ := Xl.aput hexec hBk rfl hlt rfl (fits_lo8 (cv A (o + i))) (g := (mkF m 31 #[.val (.ref b), .val (.int (Int32.ofNat (o + i))), .val (.ref d), .val (.int (Int32.ofNat (q + i))), .val (.int (Int32.ofNat len)), .val (.int (Int32.ofNat i)), .val (.int (cv A (o + i)))] [.int (lo8 (cv A (o + i))), .int (Int32.ofNat (q + i)), .ref d])) rfl (rest := []) rfl (hb hbytes d31)
      have c8 : Steps p.tables e below (s₁.setTop (entryFrame m #[.ref b, .int (Int32.ofNat o), .ref d, .int (Int32.ofNat q), .int (Int32.ofNat len)] 7)) (T7.setTop (mkF m 32 #[.val (.ref b), .val (.int (Int32.ofNat (o + i))), .val (.ref d), .val (.int (Int32.ofNat (q + i))), .val (.int (Int32.ofNat len)), .val (.int (Int32.ofNat i)), .val (.int (cv A (o + i)))] [])) := c6.trans (st7 _ (Steps.refl _))
      have c9 : Steps p.tables e below (s₁.setTop (entryFrame m #[.ref b, .int (Int32.ofNat o), .ref d, .int (Int32.ofNat q), .int (Int32.ofNat len)] 7)) (T7.setTop (mkF m 3 #[.val (.ref b), .val (.int (Int32.ofNat (o + i) + 1)), .val (.ref d), .val (.int (Int32.ofNat (q + i) + 1)), .val (.int (Int32.ofNat len)), .val (.int (Int32.ofNat i + 1)), .val (.int (cv A (o + i)))] [])) := c8.trans (by
        refine iincV X7.here hexec rfl 1 (hb hbytes d32) (by decide) rfl rfl ?_
        refine iincV X7.here hexec rfl 1 (hb hbytes d35) (by decide) rfl rfl ?_
        refine iincV X7.here hexec rfl 1 (hb hbytes d38) (by decide) rfl rfl ?_
        refine XS.goto X7.here hexec rfl (pc0 := 41) rfl (hb hbytes d41) (by decide) rfl ?_
        exact Steps.refl _)
      have c10 : Steps p.tables e below (s₁.setTop (entryFrame m #[.ref b, .int (Int32.ofNat o), .ref d, .int (Int32.ofNat q), .int (Int32.ofNat len)] 7)) (T7.setTop (mkF m 3 #[.val (.ref b), .val (.int (Int32.ofNat (o + (i + 1)))), .val (.ref d), .val (.int (Int32.ofNat (q + (i + 1)))), .val (.int (Int32.ofNat len)), .val (.int (Int32.ofNat (i + 1))), .val (.int (cv A (o + i)))] [])) := by
        have := c9
        rw [succ32, succ32, succ32] at this
        exact this
      exact ih (i + 1) (by omega) _ (Or.inr ⟨_, rfl, rfl⟩) T7 _ (by rw [copyLocs_step, ← List.append_assoc]; exact X7) (pl.trans p7) (fl.step (by omega) hlt (by simp)) c10
  obtain ⟨T9, B9, z9, X9, p9, f9, g9⟩ := loop len 0 (by omega) .unset (Or.inl rfl) s₁ B (by simpa [copyLocs] using X0) ⟨hB0.1, fun _ _ => rfl, rfl⟩ (Laid.zero _ _ _) c2
  have c11 : Steps p.tables e below (s₁.setTop (entryFrame m #[.ref b, .int (Int32.ofNat o), .ref d, .int (Int32.ofNat q), .int (Int32.ofNat len)] 7)) (T9.setTop (mkF m 46 #[.val (.ref b), .val (.int (Int32.ofNat (o + len))), .val (.ref d), .val (.int (Int32.ofNat (q + len))), .val (.int (Int32.ofNat len)), .val (.int (Int32.ofNat len)), z9] [.int (Int32.ofNat len)])) := g9.trans (by
    refine XS.iload X9.here hexec rfl (hb hbytes d3) rfl ?_
    refine XS.iload X9.here hexec rfl (hb hbytes d5) rfl ?_
    refine XS.icmpYes X9.here hexec rfl (pc0 := 7) rfl (hb hbytes d7) rfl (ii_ge_t (nlt32 (by omega) (Nat.le_refl _))) (by decide) rfl ?_
    refine XS.iload X9.here hexec rfl (hb hbytes d44) rfl ?_
    exact Steps.refl _)
  exact ⟨T9, some (.int (Int32.ofNat len)), _, _, _, X9, by simp, rfl, rfl, (fun h => by cases h), ⟨rfl, B9, p9.from hh0, f9⟩, fun fs hl => c11.trans (X9.ireturnOut hexec hret rfl (Or.inl rfl) (hb hbytes d46) hl)⟩
end Cmp5
namespace Cmp3
def yN : MethodName := ⟨"java/lang/StringUTF16", "compress", "([CII)[B"⟩
abbrev yB : ByteArray := jdk_52_method_16_code
theorem d0 : decode yB 0 = .ok (.iload_n 2, 1) := by decide +kernel
theorem d1 : decode yB 1 = .ok (.newarray .byte, 2) := by decide +kernel
theorem d3 : decode yB 3 = .ok (.astore_n 3, 1) := by decide +kernel
theorem d4 : decode yB 4 = .ok (.aload_n 0, 1) := by decide +kernel
theorem d5 : decode yB 5 = .ok (.iload_n 1, 1) := by decide +kernel
theorem d6 : decode yB 6 = .ok (.aload_n 3, 1) := by decide +kernel
theorem d7 : decode yB 7 = .ok (.iconst 0, 1) := by decide +kernel
theorem d8 : decode yB 8 = .ok (.iload_n 2, 1) := by decide +kernel
theorem d9 : decode yB 9 = .ok (.invokestatic 115, 3) := by decide +kernel
theorem d12 : decode yB 12 = .ok (.istore 4, 2) := by decide +kernel
theorem d14 : decode yB 14 = .ok (.iload 4, 2) := by decide +kernel
theorem d16 : decode yB 16 = .ok (.iload_n 2, 1) := by decide +kernel
theorem d17 : decode yB 17 = .ok (.if_icmp (.eq) 40, 3) := by decide +kernel
theorem d57 : decode yB 57 = .ok (.aload_n 3, 1) := by decide +kernel
theorem d58 : decode yB 58 = .ok (.areturn, 1) := by decide +kernel
def site : List Cond := [.arrayClass .byte, Cmp5.tab] ++ staticW U16 115 Cmp5.yN
def tab : Cond := tabOf yN yB 6 (some (.array .byte)) site
def P (b : Addr) (A : Cell) (o len : Nat) (args : Array Value) (s : State) : Prop := args = #[.ref b, .int (Int32.ofNat o), .int (Int32.ofNat len)] ∧ Ch b A s ∧ o + len ≤ A.slots.size ∧ len ≤ 536870912 ∧ ∀ i, i < len → ¬ 255 < cv A (o + i)
def E (b : Addr) (A : Cell) (o len : Nat) (r : Option Value) (s u : State) : Prop := NewArr .byte "[B" len (fun j => .int (lo8 (cv A (o + j)))) r s u ∧ u.heap.size = s.heap.size + 1
/-- no char of the range above 255: a new byte[] of their low bytes -/
theorem law (l : Launch) (b : Addr) (A : Cell) (o len : Nat) : Law l yN 3 3 1 18 yB 6 (some (.array .byte)) site (P b A o len) (E b A o len) [] 1 len := by
  refine Law.of_walk (plainFor_of_name (by decide +kernel)) (by decide +kernel) (by decide +kernel) (by decide) (fun _ _ h => by rw [h.1]; rfl) (fun _ U U' hal hh h => ⟨h.1, h.2.1.mv hal hh, h.2.2⟩) (fun r U U' V V' h1 hal h2 h => ⟨NewArr.mv r U U' V V' h1 hal h2 h.1, by rw [h1, h2]; exact h.2⟩) ?_
  intro p e s m args below meth c s₁ X0 hexec hbytes hml hret hlk hnm hown hh0 W hP
  obtain ⟨rfl, hA, l1, l2, hp⟩ := hP
  have a31 := hA.1.2.2.2
  have c1 : Steps p.tables e below (s₁.setTop (entryFrame m #[.ref b, .int (Int32.ofNat o), .int (Int32.ofNat len)] 6)) (s₁.setTop (mkF m 0 #[.val (.ref b), .val (.int (Int32.ofNat o)), .val (.int (Int32.ofNat len)), .unset, .unset, .unset] [])) := entry rfl
  have c2 : Steps p.tables e below (s₁.setTop (entryFrame m #[.ref b, .int (Int32.ofNat o), .int (Int32.ofNat len)] 6)) (s₁.setTop (mkF m 1 #[.val (.ref b), .val (.int (Int32.ofNat o)), .val (.int (Int32.ofNat len)), .unset, .unset, .unset] [.int (Int32.ofNat len)])) := c1.trans (by
    refine XS.iloadN X0.here hexec rfl (hb hbytes d0) rfl ?_
    exact Steps.refl _)
  obtain ⟨T3, B3, X3, ba3, bs3, bv3, bh3, bf3, st3⟩ := X0.anew hexec (atype := .byte) (wk W (.arrayClass .byte)) rfl (by show len * 1 ≤ _; omega) (by omega) (g := (mkF m 1 #[.val (.ref b), .val (.int (Int32.ofNat o)), .val (.int (Int32.ofNat len)), .unset, .unset, .unset] [.int (Int32.ofNat len)])) rfl (hb hbytes d1) (rest := []) rfl (Nat.le_refl _) (by show 0 + len ≤ len; omega)
  rw [hh0] at ba3 st3
  have kp3 : XT.Kept s T3 := (XT.Kept.of_eq hh0).push bh3
  have hA3 := hA.keep X3.warmed.alike (kp3 _ _ hA.1.1)
  have hne : b ≠ s.heap.size := hA.1.ne
  have c4 : Steps p.tables e below (s₁.setTop (entryFrame m #[.ref b, .int (Int32.ofNat o), .int (Int32.ofNat len)] 6)) (T3.setTop (mkF m 3 #[.val (.ref b), .val (.int (Int32.ofNat o)), .val (.int (Int32.ofNat len)), .unset, .unset, .unset] [.ref s.heap.size])) := c2.trans (st3 _ (Steps.refl _))
  have c5 : Steps p.tables e below (s₁.setTop (entryFrame m #[.ref b, .int (Int32.ofNat o), .int (Int32.ofNat len)] 6)) (T3.setTop (mkF m 9 #[.val (.ref b), .val (.int (Int32.ofNat o)), .val (.int (Int32.ofNat len)), .val (.ref s.heap.size), .unset, .unset] [.int (Int32.ofNat len), .int 0, .ref s.heap.size, .int (Int32.ofNat o), .ref b])) := c4.trans (by
    refine XS.astoreN X3.here hexec rfl (hb hbytes d3) rfl rfl rfl ?_
    refine XS.aloadN X3.here hexec rfl (hb hbytes d4) rfl rfl ?_
    refine XS.iloadN X3.here hexec rfl (hb hbytes d5) rfl ?_
    refine XS.aloadN X3.here hexec rfl (hb hbytes d6) rfl rfl ?_
    refine iconstV X3.here hexec rfl 0 (hb hbytes d7) (by decide) ?_
    refine XS.iloadN X3.here hexec rfl (hb hbytes d8) rfl ?_
    exact Steps.refl _)
  obtain ⟨v6, T6, X6, E6, g6⟩ := X3.callS hexec (Cmp5.law l b A s.heap.size B3 o 0 len) hown (wks W (staticW U16 115 Cmp5.yN)) (wk W Cmp5.tab) (W := 0) (Nat.le_of_ble_eq_true rfl) (Nat.le_of_ble_eq_true rfl) (Nat.le_refl _) (by show 0 + len + 0 ≤ len; omega) (g := (mkF m 9 #[.val (.ref b), .val (.int (Int32.ofNat o)), .val (.int (Int32.ofNat len)), .val (.ref s.heap.size), .unset, .unset] [.int (Int32.ofNat len), .int (Int32.ofNat 0), .ref s.heap.size, .int (Int32.ofNat o), .ref b])) rfl (by rw [hml]; rfl) c5 (argsL := [.ref b, .int (Int32.ofNat o), .ref s.heap.size, .int (Int32.ofNat 0), .int (Int32.ofNat len)]) (rest := []) rfl rfl (by show 2 * 0 + 0 ≤ _; decide) (hb hbytes d9) (⟨rfl, hA3, ba3, hne, l1, by rw [bs3]; simp, hp⟩)
  obtain ⟨rfl, B6, p6, f6⟩ := E6
  have c7 : Steps p.tables e below (s₁.setTop (entryFrame m #[.ref b, .int (Int32.ofNat o), .int (Int32.ofNat len)] 6)) (T6.setTop (mkF m 12 #[.val (.ref b), .val (.int (Int32.ofNat o)), .val (.int (Int32.ofNat len)), .val (.ref s.heap.size), .unset, .unset] [.int (Int32.ofNat len)])) := g6
  have c8 : Steps p.tables e below (s₁.setTop (entryFrame m #[.ref b, .int (Int32.ofNat o), .int (Int32.ofNat len)] 6)) (T6.setTop (mkF m 58 #[.val (.ref b), .val (.int (Int32.ofNat o)), .val (.int (Int32.ofNat len)), .val (.ref s.heap.size), .val (.int (Int32.ofNat len)), .unset] [.ref s.heap.size])) := c7.trans (by
    refine XS.istore X6.here hexec rfl (hb hbytes d12) rfl rfl ?_
    refine XS.iload X6.here hexec rfl (hb hbytes d14) rfl ?_
    refine XS.iloadN X6.here hexec rfl (hb hbytes d16) rfl ?_
    refine XS.icmpYes X6.here hexec rfl (pc0 := 17) rfl (hb hbytes d17) rfl (ii_eq_t rfl) (by decide) rfl ?_
    refine XS.aloadN X6.here hexec rfl (hb hbytes d57) rfl rfl ?_
    exact Steps.refl _)
  have X8 := X6.wide (L' := []) (cells' := 1) (slots' := len) (fun x hx hlt => by
    simp only [List.nil_append, copyLocs, List.mem_map, List.mem_range] at hx
    obtain ⟨i, -, rfl⟩ := hx
    exact absurd hlt (Nat.lt_irrefl _)) (Nat.le_refl _) (by omega)
  exact ⟨T6, some (.ref s.heap.size), _, _, _, X8, rfl, rfl, rfl, (fun h => by cases h), ⟨⟨rfl, B6, ba3.like (X3.warmed.alike.symm.trans X6.warmed.alike) p6.1 f6.1 f6.2.1 f6.2.2.1, f6.2.1.trans bv3, by rw [X6.warmed.alike.findClass, f6.1]; exact bf3, by rw [f6.2.2.1, bs3]; simp, fun j hj => by rw [f6.2.2.2 j, if_pos (by omega)]; rfl, kp3.put p6 (Nat.le_refl _)⟩, by rw [p6.2.2, bh3, hh0]; simp⟩, fun fs hl => c8.trans (X8.areturnOut hexec rfl hret rfl (hb hbytes d58) hl)⟩
end Cmp3
namespace CodL
def yN : MethodName := ⟨"java/lang/StringUTF16", "coderFromArrayLen", "([BI)B"⟩
abbrev yB : ByteArray := jdk_52_method_15_code
theorem d0 : decode yB 0 = .ok (.iload_n 1, 1) := by decide +kernel
theorem d1 : decode yB 1 = .ok (.aload_n 0, 1) := by decide +kernel
theorem d2 : decode yB 2 = .ok (.arraylength, 1) := by decide +kernel
theorem d3 : decode yB 3 = .ok (.isub, 1) := by decide +kernel
theorem d4 : decode yB 4 = .ok (.bipush 31, 2) := by decide +kernel
theorem d6 : decode yB 6 = .ok (.iushr, 1) := by decide +kernel
theorem d7 : decode yB 7 = .ok (.i2b, 1) := by decide +kernel
theorem d8 : decode yB 8 = .ok (.ireturn, 1) := by decide +kernel
def site : List Cond := []
def tab : Cond := tabOf yN yB 2 (some .byte) site
def P (d : Addr) (B : Cell) (args : Array Value) (s : State) : Prop := args = #[.ref d, .int (Int32.ofNat B.slots.size)] ∧ Arr .byte d B s
def E (r : Option Value) (s u : State) : Prop := XT.PureE (some (.int 0)) r s u
/-- an array as long as the number of chars: LATIN1 -/
theorem law (l : Launch) (d : Addr) (B : Cell) : Law l yN 2 2 0 0 yB 2 (some .byte) site (P d B) E [] 0 0 := by
  refine Law.of_walk (plainFor_of_name (by decide +kernel)) (by decide +kernel) (by decide +kernel) (by decide) (fun _ _ h => by rw [h.1]; rfl) (fun _ U U' hal hh h => ⟨h.1, h.2.mv hal hh⟩) (fun r U U' V V' h1 hal h2 h => XT.PureE.mv r U U' V V' h1 hal h2 h) ?_
  intro p e s m args below meth c s₁ X0 hexec hbytes hml hret hlk hnm hown hh0 W hP
  obtain ⟨rfl, hB⟩ := hP
  have hB0 := hB.mv X0.warmed.alike hh0
  have c1 : Steps p.tables e below (s₁.setTop (entryFrame m #[.ref d, .int (Int32.ofNat B.slots.size)] 2)) (s₁.setTop (mkF m 0 #[.val (.ref d), .val (.int (Int32.ofNat B.slots.size))] [])) := entry rfl
  have c2 : Steps p.tables e below (s₁.setTop (entryFrame m #[.ref d, .int (Int32.ofNat B.slots.size)] 2)) (s₁.setTop (mkF m 2 #[.val (.ref d), .val (.int (Int32.ofNat B.slots.size))] [.ref d, .int (Int32.ofNat B.slots.size)])) := c1.trans (by
    refine XS.iloadN X0.here hexec rfl (hb hbytes d0) rfl ?_
    refine XS.aloadN X0.here hexec rfl (hb hbytes d1) rfl rfl ?_
    exact Steps.refl _)
  have c3 : Steps p.tables e below (s₁.setTop (entryFrame m #[.ref d, .int (Int32.ofNat B.slots.size)] 2)) (s₁.setTop (mkF m 8 #[.val (.ref d), .val (.int (Int32.ofNat B.slots.size))] [.int (lo8 (ushr (Int32.ofNat B.slots.size - Int32.ofNat B.slots.size) 31))])) := c2.trans (by
    refine X0.alen hexec hB0 rfl rfl (hb hbytes d2) ?_
    refine XS.isub X0.here hexec rfl (hb hbytes d3) rfl ?_
    refine bipushV X0.here hexec rfl 31 (hb hbytes d4) (by decide) ?_
    refine iushr X0.here hexec rfl (hb hbytes d6) rfl ?_
    refine i2b X0.here hexec rfl (hb hbytes d7) rfl ?_
    exact Steps.refl _)
  have e0 : lo8 (ushr (Int32.ofNat B.slots.size - Int32.ofNat B.slots.size) 31) = 0 := by rw [Int32.sub_self]; decide
  rw [e0] at c3
  exact ⟨s₁, some (.int 0), _, _, _, X0, rfl, rfl, rfl, (fun h => by cases h), ⟨rfl, hh0⟩, fun fs hl => c3.trans (X0.ireturnOut hexec hret rfl (Or.inr (Or.inr (Or.inl rfl))) (hb hbytes d8) hl)⟩
end CodL
/-- the String at a is Latin-1 over a new byte[] (the heap's one new cell): the low bytes of the len chars of A from o on; every cell but a is kept -/
def Got (a : Addr) (D : Cell) (fV fC : Field) (A : Cell) (o len : Nat) (r : Option Value) (s u : State) : Prop := r = none ∧ ∃ D' V : Cell, Blank "java/lang/String" a D' u ∧ Same D D' [fV.slot, fC.slot] ∧ D'.slots[fV.slot]? = some (.ref s.heap.size) ∧ D'.slots[fC.slot]? = some (.int 0) ∧ Arr .byte s.heap.size V u ∧ V.vm = .none ∧ u.vm.findClass "[B" = some V.cls ∧ V.slots.size = len ∧ (∀ j, j < len → V.slots[j]? = some (.int (lo8 (cv A (o + j))))) ∧ (∀ (y : Addr) (c : Cell), y ≠ a → s.heap[y]? = some c → u.heap[y]? = some c) ∧ u.heap.size = s.heap.size + 1
theorem Got.mv {a : Addr} {D A : Cell} {fV fC : Field} {o len : Nat} : ∀ r (U U' V V' : State), U'.heap = U.heap → V.vm.Alike V'.vm → V'.heap = V.heap → Got a D fV fC A o len r U V → Got a D fV fC A o len r U' V' :=
  fun r U U' V V' h1 hal h2 ⟨e0, D', X, a1, a2, a3, a4, a5, a6, a7, a8, a9, a10, a11⟩ => ⟨e0, D', X, a1.mv hal h2, a2, by rw [h1]; exact a3, a4, by rw [h1]; exact a5.mv hal h2, a6, by rw [hal.findClass]; exact a7, a8, a9, by rw [h1, h2]; exact a10, by rw [h1, h2]; exact a11⟩
namespace New4
def yN : MethodName := ⟨"java/lang/String", "<init>", "([CIILjava/lang/Void;)V"⟩
abbrev yB : ByteArray := jdk_42_method_149_code
theorem d0 : decode yB 0 = .ok (.aload_n 0, 1) := by decide +kernel
theorem d1 : decode yB 1 = .ok (.invokespecial 1, 3) := by decide +kernel
theorem d4 : decode yB 4 = .ok (.iload_n 3, 1) := by decide +kernel
theorem d5 : decode yB 5 = .ok (.ifCond (.ne) 22, 3) := by decide +kernel
theorem d27 : decode yB 27 = .ok (.getstatic 38, 3) := by decide +kernel
theorem d30 : decode yB 30 = .ok (.ifCond (.eq) 28, 3) := by decide +kernel
theorem d33 : decode yB 33 = .ok (.aload_n 1, 1) := by decide +kernel
theorem d34 : decode yB 34 = .ok (.iload_n 2, 1) := by decide +kernel
theorem d35 : decode yB 35 = .ok (.iload_n 3, 1) := by decide +kernel
theorem d36 : decode yB 36 = .ok (.invokestatic 177, 3) := by decide +kernel
theorem d39 : decode yB 39 = .ok (.astore 5, 2) := by decide +kernel
theorem d41 : decode yB 41 = .ok (.aload_n 0, 1) := by decide +kernel
theorem d42 : decode yB 42 = .ok (.aload 5, 2) := by decide +kernel
theorem d44 : decode yB 44 = .ok (.iload_n 3, 1) := by decide +kernel
theorem d45 : decode yB 45 = .ok (.invokestatic 47, 3) := by decide +kernel
theorem d48 : decode yB 48 = .ok (.putfield 15, 3) := by decide +kernel
theorem d51 : decode yB 51 = .ok (.aload_n 0, 1) := by decide +kernel
theorem d52 : decode yB 52 = .ok (.aload 5, 2) := by decide +kernel
theorem d54 : decode yB 54 = .ok (.putfield 9, 3) := by decide +kernel
theorem d57 : decode yB 57 = .ok (.return_, 1) := by decide +kernel
def site : List Cond := [.fieldLink "java/lang/String" 38 "java/lang/String" "COMPACT_STRINGS" "Z", Cmp3.tab, CodL.tab, .laysFinal "java/lang/String" "java/lang/String" "value" "[B", .fieldLink "java/lang/String" 9 "java/lang/String" "value" "[B", .laysFinal "java/lang/String" "java/lang/String" "coder" "B", .fieldLink "java/lang/String" 15 "java/lang/String" "coder" "B"] ++ objW "java/lang/String" 1 ++ staticW "java/lang/String" 177 Cmp3.yN ++ staticW "java/lang/String" 47 CodL.yN
def tab : Cond := tabOf yN yB 6 none site
def P (a : Addr) (D : Cell) (fV fC : Field) (b : Addr) (A : Cell) (z : Int32) (o len : Nat) (args : Array Value) (s : State) : Prop := args = #[.ref a, .ref b, .int (Int32.ofNat o), .int (Int32.ofNat len), .null] ∧ Blank "java/lang/String" a D s ∧ Found "java/lang/String" "value" "[B" fV s ∧ Found "java/lang/String" "coder" "B" fC s ∧ Ch b A s ∧ StaticIs s "java/lang/String" "COMPACT_STRINGS" "Z" (.int z) ∧ ¬ z = 0 ∧ 0 < len ∧ o + len ≤ A.slots.size ∧ len ≤ 536870912 ∧ ∀ i, i < len → ¬ 255 < cv A (o + i)
def E (a : Addr) (D : Cell) (fV fC : Field) (A : Cell) (o len : Nat) (r : Option Value) (s u : State) : Prop := Got a D fV fC A o len r s u
/-- len > 0, no char of the range above 255: a Latin-1 String of their low bytes -/
theorem law (l : Launch) (a : Addr) (D : Cell) (fV fC : Field) (b : Addr) (A : Cell) (z : Int32) (o len : Nat) : Law l yN 5 4 2 35 yB 6 none site (P a D fV fC b A z o len) (E a D fV fC A o len) [⟨a, fC.slot⟩, ⟨a, fV.slot⟩] 1 len := by
  refine Law.of_walk (plainFor_of_name (by decide +kernel)) (by decide +kernel) (by decide +kernel) (by decide) (fun _ _ h => by rw [h.1]; rfl) (fun _ U U' hal hh h => ⟨h.1, h.2.1.mv hal hh, h.2.2.1.al hal, h.2.2.2.1.al hal, h.2.2.2.2.1.mv hal hh, h.2.2.2.2.2.1.there hal hh, h.2.2.2.2.2.2⟩) (fun r U U' V V' h1 hal h2 h => Got.mv r U U' V V' h1 hal h2 h) ?_
  intro p e s m args below meth c s₁ X0 hexec hbytes hml hret hlk hnm hown hh0 W hP
  obtain ⟨rfl, hB, f1, f2, hA, s1, hz, l0, l1, l2, hp⟩ := hP
  have a31 := hA.1.2.2.2
  have c1 : Steps p.tables e below (s₁.setTop (entryFrame m #[.ref a, .ref b, .int (Int32.ofNat o), .int (Int32.ofNat len), .null] 6)) (s₁.setTop (mkF m 0 #[.val (.ref a), .val (.ref b), .val (.int (Int32.ofNat o)), .val (.int (Int32.ofNat len)), .val .null, .unset] [])) := entry rfl
  have c2 : Steps p.tables e below (s₁.setTop (entryFrame m #[.ref a, .ref b, .int (Int32.ofNat o), .int (Int32.ofNat len), .null] 6)) (s₁.setTop (mkF m 1 #[.val (.ref a), .val (.ref b), .val (.int (Int32.ofNat o)), .val (.int (Int32.ofNat len)), .val .null, .unset] [.ref a])) := c1.trans (by
    refine XS.aloadN X0.here hexec rfl (hb hbytes d0) rfl rfl ?_
    exact Steps.refl _)
  obtain ⟨T3, X3, q3, st3⟩ := X0.oinit hexec hown (wks W (objW "java/lang/String" 1)) (g := (mkF m 1 #[.val (.ref a), .val (.ref b), .val (.int (Int32.ofNat o)), .val (.int (Int32.ofNat len)), .val .null, .unset] [.ref a])) rfl (by rw [hml]; rfl) (rest := []) rfl (hb hbytes d1) (W := 0) (by show 2 * 0 + 0 ≤ _; decide) (Nat.le_of_ble_eq_true rfl) (Nat.le_of_ble_eq_true rfl)
  have hh3 := q3.trans hh0
  have c4 : Steps p.tables e below (s₁.setTop (entryFrame m #[.ref a, .ref b, .int (Int32.ofNat o), .int (Int32.ofNat len), .null] 6)) (T3.setTop (mkF m 27 #[.val (.ref a), .val (.ref b), .val (.int (Int32.ofNat o)), .val (.int (Int32.ofNat len)), .val .null, .unset] [])) := (c2.trans (st3 _ (Steps.refl _))).trans (by
    refine XS.iloadN X3.here hexec rfl (hb hbytes d4) rfl ?_
    refine XS.ifYes X3.here hexec rfl (pc0 := 5) rfl (hb hbytes d5) rfl (i0_ne_t (nz32 (by omega) l0)) (by decide) rfl ?_
    exact Steps.refl _)
  obtain ⟨T5, X5, q5, st5⟩ := X3.sget hexec hown (wk W (.fieldLink "java/lang/String" 38 "java/lang/String" "COMPACT_STRINGS" "Z")) s1 (fun _ _ h => by rw [hh3]; exact h) (g := (mkF m 27 #[.val (.ref a), .val (.ref b), .val (.int (Int32.ofNat o)), .val (.int (Int32.ofNat len)), .val .null, .unset] [])) rfl (hb hbytes d27)
  have hh5 := q5.trans hh3
  have c6 : Steps p.tables e below (s₁.setTop (entryFrame m #[.ref a, .ref b, .int (Int32.ofNat o), .int (Int32.ofNat len), .null] 6)) (T5.setTop (mkF m 30 #[.val (.ref a), .val (.ref b), .val (.int (Int32.ofNat o)), .val (.int (Int32.ofNat len)), .val .null, .unset] [.int z])) := c4.trans (st5 _ (Steps.refl _))
  have c7 : Steps p.tables e below (s₁.setTop (entryFrame m #[.ref a, .ref b, .int (Int32.ofNat o), .int (Int32.ofNat len), .null] 6)) (T5.setTop (mkF m 36 #[.val (.ref a), .val (.ref b), .val (.int (Int32.ofNat o)), .val (.int (Int32.ofNat len)), .val .null, .unset] [.int (Int32.ofNat len), .int (Int32.ofNat o), .ref b])) := c6.trans (by
    refine XS.ifNo X5.here hexec rfl (hb hbytes d30) rfl (i0_eq_f hz) ?_
    refine XS.aloadN X5.here hexec rfl (hb hbytes d33) rfl rfl ?_
    refine XS.iloadN X5.here hexec rfl (hb hbytes d34) rfl ?_
    refine XS.iloadN X5.here hexec rfl (hb hbytes d35) rfl ?_
    exact Steps.refl _)
  obtain ⟨v8, T8, X8, E8, g8⟩ := X5.callS hexec (Cmp3.law l b A o len) hown (wks W (staticW "java/lang/String" 177 Cmp3.yN)) (wk W Cmp3.tab) (W := 0) (Nat.le_of_ble_eq_true rfl) (Nat.le_of_ble_eq_true rfl) (Nat.le_refl _) (by show 0 + len ≤ len; omega) (g := (mkF m 36 #[.val (.ref a), .val (.ref b), .val (.int (Int32.ofNat o)), .val (.int (Int32.ofNat len)), .val .null, .unset] [.int (Int32.ofNat len), .int (Int32.ofNat o), .ref b])) rfl (by rw [hml]; rfl) c7 (argsL := [.ref b, .int (Int32.ofNat o), .int (Int32.ofNat len)]) (rest := []) rfl rfl (by show 2 * 0 + 0 ≤ _; decide) (hb hbytes d36) (⟨rfl, hA.mv X5.warmed.alike hh5, l1, l2, hp⟩)
  obtain ⟨e8, z8⟩ := E8
  obtain ⟨rfl, N, n1, n2, n3, n4, n5, n6⟩ := NewArr.mv _ T5 s _ _ hh5.symm (Vm.Alike.refl _) rfl e8
  rw [hh5] at z8
  have hB1 := hB.keep X8.warmed.alike (n6 _ _ hB.1)
  have hne : s.heap.size ≠ a := (Nat.ne_of_lt (Array.getElem?_eq_some_iff.mp hB.1).1).symm
  have c9 : Steps p.tables e below (s₁.setTop (entryFrame m #[.ref a, .ref b, .int (Int32.ofNat o), .int (Int32.ofNat len), .null] 6)) (T8.setTop (mkF m 39 #[.val (.ref a), .val (.ref b), .val (.int (Int32.ofNat o)), .val (.int (Int32.ofNat len)), .val .null, .unset] [.ref s.heap.size])) := g8
  have c10 : Steps p.tables e below (s₁.setTop (entryFrame m #[.ref a, .ref b, .int (Int32.ofNat o), .int (Int32.ofNat len), .null] 6)) (T8.setTop (mkF m 45 #[.val (.ref a), .val (.ref b), .val (.int (Int32.ofNat o)), .val (.int (Int32.ofNat len)), .val .null, .val (.ref s.heap.size)] [.int (Int32.ofNat N.slots.size), .ref s.heap.size, .ref a])) := by
    have hc : Steps p.tables e below (s₁.setTop (entryFrame m #[.ref a, .ref b, .int (Int32.ofNat o), .int (Int32.ofNat len), .null] 6)) (T8.setTop (mkF m 45 #[.val (.ref a), .val (.ref b), .val (.int (Int32.ofNat o)), .val (.int (Int32.ofNat len)), .val .null, .val (.ref s.heap.size)] [.int (Int32.ofNat len), .ref s.heap.size, .ref a])) := c9.trans (by
      refine XS.astore X8.here hexec rfl (hb hbytes d39) rfl rfl rfl ?_
      refine XS.aloadN X8.here hexec rfl (hb hbytes d41) rfl rfl ?_
      refine XS.aload X8.here hexec rfl (hb hbytes d42) rfl rfl ?_
      refine XS.iloadN X8.here hexec rfl (hb hbytes d44) rfl ?_
      exact Steps.refl _)
    rw [n4]; exact hc
  obtain ⟨v11, T11, X11, E11, g11⟩ := X8.callS hexec (CodL.law l s.heap.size N) hown (wks W (staticW "java/lang/String" 47 CodL.yN)) (wk W CodL.tab) (W := 1) (Nat.le_of_ble_eq_true rfl) (Nat.le_of_ble_eq_true rfl) (Nat.le_refl _) (by show 0 + len + 0 ≤ len; omega) (g := (mkF m 45 #[.val (.ref a), .val (.ref b), .val (.int (Int32.ofNat o)), .val (.int (Int32.ofNat len)), .val .null, .val (.ref s.heap.size)] [.int (Int32.ofNat N.slots.size), .ref s.heap.size, .ref a])) rfl (by rw [hml]; rfl) c10 (argsL := [.ref s.heap.size, .int (Int32.ofNat N.slots.size)]) (rest := [.ref a]) rfl rfl (by show 2 * 0 + (1 + 0) ≤ _; decide) (hb hbytes d45) (⟨rfl, n1⟩)
  obtain ⟨rfl, q11⟩ := E11
  have hB11 := hB1.mv (X8.warmed.alike.symm.trans X11.warmed.alike) q11
  have c12 : Steps p.tables e below (s₁.setTop (entryFrame m #[.ref a, .ref b, .int (Int32.ofNat o), .int (Int32.ofNat len), .null] 6)) (T11.setTop (mkF m 48 #[.val (.ref a), .val (.ref b), .val (.int (Int32.ofNat o)), .val (.int (Int32.ofNat len)), .val .null, .val (.ref s.heap.size)] [.int 0, .ref a])) := g11
  obtain ⟨T13, X13, p13, bl13, sl13, st13⟩ := X11.finit hexec hown (wk W (.fieldLink "java/lang/String" 15 "java/lang/String" "coder" "B")) (Or.inr ⟨_, (wk W (.laysFinal "java/lang/String" "java/lang/String" "coder" "B"))⟩) (Or.inl ⟨rfl, hnm⟩) f2 (Or.inl rfl) hB11 (t := .byte) (by decide +kernel) rfl (g := (mkF m 48 #[.val (.ref a), .val (.ref b), .val (.int (Int32.ofNat o)), .val (.int (Int32.ofNat len)), .val .null, .val (.ref s.heap.size)] [.int 0, .ref a])) rfl (rest := []) rfl (hb hbytes d48)
  have c14 : Steps p.tables e below (s₁.setTop (entryFrame m #[.ref a, .ref b, .int (Int32.ofNat o), .int (Int32.ofNat len), .null] 6)) (T13.setTop (mkF m 54 #[.val (.ref a), .val (.ref b), .val (.int (Int32.ofNat o)), .val (.int (Int32.ofNat len)), .val .null, .val (.ref s.heap.size)] [.ref s.heap.size, .ref a])) := (c12.trans (st13 _ (Steps.refl _))).trans (by
    refine XS.aloadN X13.here hexec rfl (hb hbytes d51) rfl rfl ?_
    refine XS.aload X13.here hexec rfl (hb hbytes d52) rfl rfl ?_
    exact Steps.refl _)
  obtain ⟨T15, X15, p15, bl15, sl15, st15⟩ := X13.finit hexec hown (wk W (.fieldLink "java/lang/String" 9 "java/lang/String" "value" "[B")) (Or.inr ⟨_, (wk W (.laysFinal "java/lang/String" "java/lang/String" "value" "[B"))⟩) (Or.inl ⟨rfl, hnm⟩) f1 (Or.inl rfl) bl13 (t := (.array .byte)) (by decide +kernel) rfl (g := (mkF m 54 #[.val (.ref a), .val (.ref b), .val (.int (Int32.ofNat o)), .val (.int (Int32.ofNat len)), .val .null, .val (.ref s.heap.size)] [.ref s.heap.size, .ref a])) rfl (rest := []) rfl (hb hbytes d54)
  have c16 : Steps p.tables e below (s₁.setTop (entryFrame m #[.ref a, .ref b, .int (Int32.ofNat o), .int (Int32.ofNat len), .null] 6)) (T15.setTop (mkF m 57 #[.val (.ref a), .val (.ref b), .val (.int (Int32.ofNat o)), .val (.int (Int32.ofNat len)), .val .null, .val (.ref s.heap.size)] [])) := c14.trans (st15 _ (Steps.refl _))
  have ap := apart (Or.inr ⟨_, (wk W (.laysFinal "java/lang/String" "java/lang/String" "value" "[B"))⟩) (Or.inr ⟨_, (wk W (.laysFinal "java/lang/String" "java/lang/String" "coder" "B"))⟩) f1 f2 (t₁ := .array .byte) (t₂ := .byte) (by decide +kernel) (by decide +kernel) (by decide)
  have al := X8.warmed.alike.symm.trans X15.warmed.alike
  have n7 : T11.heap[s.heap.size]? = some N := by rw [q11]; exact n1.1
  exact ⟨T15, none, _, _, _, X15, by simp, rfl, by omega, (fun _ => rfl), ⟨rfl, _, N, bl15, ((Same.refl D _).set _ (by simp)).set _ (by simp), sl15, (Cell.slots_setSlot_ne _ ap).trans sl13, n1.keep al (p15.other hne (p13.other hne n7)), n2, by rw [al.findClass]; exact n3, n4, n5, fun y c h1 h2 => p15.other h1 (p13.other h1 (by rw [q11]; exact n6 y c h2)), by rw [p15.2.2, p13.2.2, q11]; exact z8⟩, fun fs hl => c16.trans (X15.returnOut hexec hret (hb hbytes d57) hl)⟩
end New4
namespace New1
def yN : MethodName := ⟨"java/lang/String", "<init>", "([C)V"⟩
abbrev yB : ByteArray := jdk_42_method_3_code
theorem d0 : decode yB 0 = .ok (.aload_n 0, 1) := by decide +kernel
theorem d1 : decode yB 1 = .ok (.aload_n 1, 1) := by decide +kernel
theorem d2 : decode yB 2 = .ok (.iconst 0, 1) := by decide +kernel
theorem d3 : decode yB 3 = .ok (.aload_n 1, 1) := by decide +kernel
theorem d4 : decode yB 4 = .ok (.arraylength, 1) := by decide +kernel
theorem d5 : decode yB 5 = .ok (.aconst_null, 1) := by decide +kernel
theorem d6 : decode yB 6 = .ok (.invokespecial 27, 3) := by decide +kernel
theorem d9 : decode yB 9 = .ok (.return_, 1) := by decide +kernel
def site : List Cond := [New4.tab] ++ initW "java/lang/String" 27 New4.yN
def tab : Cond := tabOf yN yB 2 none site
def P (a : Addr) (D : Cell) (fV fC : Field) (b : Addr) (A : Cell) (z : Int32) (args : Array Value) (s : State) : Prop := args = #[.ref a, .ref b] ∧ Blank "java/lang/String" a D s ∧ Found "java/lang/String" "value" "[B" fV s ∧ Found "java/lang/String" "coder" "B" fC s ∧ Ch b A s ∧ StaticIs s "java/lang/String" "COMPACT_STRINGS" "Z" (.int z) ∧ ¬ z = 0 ∧ 0 < A.slots.size ∧ A.slots.size ≤ 536870912 ∧ ∀ i, i < A.slots.size → ¬ 255 < cv A i
def E (a : Addr) (D : Cell) (fV fC : Field) (A : Cell) (r : Option Value) (s u : State) : Prop := Got a D fV fC A 0 A.slots.size r s u
/-- new String(chars), not empty, no char above 255: a Latin-1 String of their low bytes -/
theorem law (l : Launch) (a : Addr) (D : Cell) (fV fC : Field) (b : Addr) (A : Cell) (z : Int32) : Law l yN 2 1 3 52 yB 2 none site (P a D fV fC b A z) (E a D fV fC A) [⟨a, fC.slot⟩, ⟨a, fV.slot⟩] 1 A.slots.size := by
  refine Law.of_walk (plainFor_of_name (by decide +kernel)) (by decide +kernel) (by decide +kernel) (by decide) (fun _ _ h => by rw [h.1]; rfl) (fun _ U U' hal hh h => ⟨h.1, h.2.1.mv hal hh, h.2.2.1.al hal, h.2.2.2.1.al hal, h.2.2.2.2.1.mv hal hh, h.2.2.2.2.2.1.there hal hh, h.2.2.2.2.2.2⟩) (fun r U U' V V' h1 hal h2 h => Got.mv r U U' V V' h1 hal h2 h) ?_
  intro p e s m args below meth c s₁ X0 hexec hbytes hml hret hlk hnm hown hh0 W hP
  obtain ⟨rfl, hB, f1, f2, hA, s1, hz, l0, l2, hp⟩ := hP
  have c1 : Steps p.tables e below (s₁.setTop (entryFrame m #[.ref a, .ref b] 2)) (s₁.setTop (mkF m 0 #[.val (.ref a), .val (.ref b)] [])) := entry rfl
  have c2 : Steps p.tables e below (s₁.setTop (entryFrame m #[.ref a, .ref b] 2)) (s₁.setTop (mkF m 6 #[.val (.ref a), .val (.ref b)] [.null, .int (Int32.ofNat A.slots.size), .int 0, .ref b, .ref a])) := c1.trans (by
    refine XS.aloadN X0.here hexec rfl (hb hbytes d0) rfl rfl ?_
    refine XS.aloadN X0.here hexec rfl (hb hbytes d1) rfl rfl ?_
    refine iconstV X0.here hexec rfl 0 (hb hbytes d2) (by decide) ?_
    refine XS.aloadN X0.here hexec rfl (hb hbytes d3) rfl rfl ?_
    refine X0.alen hexec (hA.1.mv X0.warmed.alike hh0) rfl rfl (hb hbytes d4) ?_
    refine XS.aconstNull X0.here hexec rfl (hb hbytes d5) ?_
    exact Steps.refl _)
  obtain ⟨v3, T3, X3, E3, g3⟩ := X0.callN hexec (New4.law l a D fV fC b A z 0 A.slots.size) rfl hown (wks W (initW "java/lang/String" 27 New4.yN)) (W New4.tab (by simp only [site, List.mem_cons, List.mem_append, true_or, or_true])) (W := 0) (Nat.le_of_ble_eq_true rfl) (Nat.le_of_ble_eq_true rfl) (Nat.le_refl _) (by show 0 + A.slots.size ≤ A.slots.size; omega) (g := (mkF m 6 #[.val (.ref a), .val (.ref b)] [.null, .int (Int32.ofNat A.slots.size), .int (Int32.ofNat 0), .ref b, .ref a])) rfl (by rw [hml]; rfl) c2 (argsL := [.ref b, .int (Int32.ofNat 0), .int (Int32.ofNat A.slots.size), .null]) (rest := []) rfl rfl (by show 2 * 0 + 0 ≤ _; decide) (hb hbytes d6) (⟨rfl, hB.mv X0.warmed.alike hh0, f1.al X0.warmed.alike, f2.al X0.warmed.alike, hA.mv X0.warmed.alike hh0, s1.there X0.warmed.alike hh0, hz, l0, by omega, l2, fun i hi => by rw [Nat.zero_add]; exact hp i hi⟩)
  have e0 := Got.mv _ s₁ s _ _ hh0.symm (Vm.Alike.refl _) rfl E3
  obtain rfl := e0.1
  have c4 : Steps p.tables e below (s₁.setTop (entryFrame m #[.ref a, .ref b] 2)) (T3.setTop (mkF m 9 #[.val (.ref a), .val (.ref b)] [])) := g3
  exact ⟨T3, none, _, _, _, X3, by simp, rfl, by omega, (fun _ => rfl), e0, fun fs hl => c4.trans (X3.returnOut hexec hret (hb hbytes d9) hl)⟩
theorem pays {l : Launch} {R : Room} {p : Program} {e : Env} {below : List Frame} {s : State} {sargs : Array Value} {len W : Nat} (a : Addr) (D : Cell) (fV fC : Field) (b : Addr) (A : Cell) (z : Int32) (htab : tab.before sargs s = true) (hfr : 4 ≤ R.frames) (hlo : W + 65 ≤ R.locals) :
    Back l R p e below s sargs yN len W (fun A₁ a₁ => A₁.cells + 1 ≤ R.cells ∧ A₁.slots + A.slots.size ≤ R.slots ∧ P a D fV fC b A z a₁ A₁.U) (fun A₁ _ v₁ B₁ => E a D fV fC A v₁ A₁.U B₁.U ∧ B₁.locs = A₁.locs ++ [⟨a, fC.slot⟩, ⟨a, fV.slot⟩] ∧ B₁.cells = A₁.cells + 1 ∧ B₁.slots = A₁.slots + A.slots.size) :=
  (law l a D fV fC b A z).pays htab hfr (by omega)
end New1
end StrChars
namespace StrChars.Road
open Jvm Sem ClassFile Op Lib Jvm.Stand Jvm.Free Jvm.Free.XT
open Jvm.Lib.Cold (StaticIs)
abbrev ST : String := "java/lang/String"
/-- every table word that New1's law asks, flat -/
abbrev words : List Jvm.Cond := [.code New1.yN New1.yB 2 none, .initialized ST, .methodLink ST 27 New4.yN, .instanceMethod New4.yN,
  .code New4.yN New4.yB 6 none, .fieldLink ST 38 ST "COMPACT_STRINGS" "Z", .laysFinal ST ST "value" "[B", .fieldLink ST 9 ST "value" "[B", .laysFinal ST ST "coder" "B", .fieldLink ST 15 ST "coder" "B",
  .methodLink ST 1 Lib.objectInit, .instanceMethod Lib.objectInit, .code Lib.objectInit ⟨#[0xb1]⟩ 1 none, .methodLink ST 177 Cmp3.yN, .static Cmp3.yN, .methodLink ST 47 CodL.yN, .static CodL.yN,
  .code Cmp3.yN Cmp3.yB 6 (some (.array .byte)), .initialized U16, .arrayClass .byte, .methodLink U16 115 Cmp5.yN, .static Cmp5.yN, .code Cmp5.yN Cmp5.yB 7 (some .int), .code CodL.yN CodL.yB 2 (some .byte)]
theorem tab_of {a : Array Value} {s : State} (h : ∀ w ∈ words, w.before a s = true) : New1.tab.before a s = true := by
  have h5 : Cmp5.tab.before a s = true := unparts (wk h (.code Cmp5.yN Cmp5.yB 7 (some .int))) (wks h (.initialized Cmp5.yN.cls :: Cmp5.site))
  have hc : CodL.tab.before a s = true := unparts (wk h (.code CodL.yN CodL.yB 2 (some .byte))) (wks h (.initialized CodL.yN.cls :: CodL.site))
  have q5 : ∀ w ∈ Cmp5.tab :: words, w.before a s = true := fun w hw => (List.mem_cons.mp hw).elim (fun e => e ▸ h5) (h w)
  have h3 : Cmp3.tab.before a s = true := unparts (wk q5 (.code Cmp3.yN Cmp3.yB 6 (some (.array .byte)))) (wks q5 (.initialized Cmp3.yN.cls :: Cmp3.site))
  have q3 : ∀ w ∈ Cmp3.tab :: CodL.tab :: words, w.before a s = true := fun w hw => (List.mem_cons.mp hw).elim (fun e => e ▸ h3) fun hw => (List.mem_cons.mp hw).elim (fun e => e ▸ hc) (h w)
  have h4 : New4.tab.before a s = true := unparts (wk q3 (.code New4.yN New4.yB 6 none)) (wks q3 (.initialized New4.yN.cls :: New4.site))
  have q4 : ∀ w ∈ New4.tab :: words, w.before a s = true := fun w hw => (List.mem_cons.mp hw).elim (fun e => e ▸ h4) (h w)
  exact unparts (wk q4 (.code New1.yN New1.yB 2 none)) (wks q4 (.initialized New1.yN.cls :: New1.site))
/-- the words ride from the start Z to the walk's own state -/
theorem moved {Z s : State} {a0 args : Array Value} (hZ : Z.Warmed39 s.vm) (hw : ∀ d ∈ words, d.before a0 Z = true) : ∀ d ∈ words, d.before args s = true := fun d hd => by
  have q := hw d hd
  have t : ∀ d ∈ words, d = .arrayClass .byte ∨ (d.onTables && d.keepsFace) = true := by decide +kernel
  rcases t d hd with rfl | t
  · exact RoadKit.mvA hZ q
  · exact RoadKit.mv hZ q t
/-- WHAT COMES BACK, over the tables of the start Z: h the heap at the call, h' behind it -/
def Q (Z : State) (x : Addr) (A : Cell) (h : Heap) (v : Option Value) (h' : Heap) (L : List Loc) : Prop := v = none ∧ (∀ y ∈ L, y.base = x) ∧ RoadKit.Keep h h' [x] ∧ h'.size = h.size + 1 ∧ RoadKit.Exa Z h' x ST ∧ RoadKit.Fld Z h' x ST "value" "[B" (.ref h.size) ∧ RoadKit.Fld Z h' x ST "coder" "B" (.int 0) ∧
  (∃ V : Cell, RoadKit.Arr Z h' h.size V .byte ∧ V.vm = .none ∧ Z.vm.findClass "[B" = some V.cls ∧ V.slots.size = A.slots.size ∧ ∀ j, j < A.slots.size → V.slots[j]? = some (.int (lo8 (cv A j)))) ∧
  ∀ (O n d : String) (w : Value), RoadKit.Fld Z h x O n d w → RoadKit.slotOf Z O n d ≠ RoadKit.slotOf Z ST "value" "[B" → RoadKit.slotOf Z O n d ≠ RoadKit.slotOf Z ST "coder" "B" → RoadKit.Fld Z h' x O n d w
/-- **new String(chars) AT A CALL, IN THE ROAD'S FORM**: for specialBack behind newO: x the fresh String, b the char[] with the cell A -/
theorem back {p : Program} {l : Launch} {e : Env} {R : Room} {s : State} {args : Array Value} {below : List Frame} {len W : Nat} {Z : State} {a0 : Array Value} {h : Heap} (hZ : Z.Warmed39 s.vm) (hw : ∀ d ∈ words, d.before a0 Z = true) {kI : Nat} (wi : (Jvm.Cond.instantiable ST kI).before a0 Z = true)
    {x b : Addr} {A : Cell} {z : Int32} {v0 c0 : Value} (E : RoadKit.Exa Z h x ST) (V : RoadKit.Fld Z h x ST "value" "[B" v0) (C : RoadKit.Fld Z h x ST "coder" "B" c0) (K : RoadKit.Arr Z h b A .char) (hty : Typed .char A) (S : RoadKit.Sta Z h ST "COMPACT_STRINGS" "Z" (.int z)) (hz : ¬ z = 0)
    (l0 : 0 < A.slots.size) (l2 : A.slots.size ≤ 536870912) (hp : ∀ i, i < A.slots.size → ¬ 255 < cv A i) (hfr : 4 ≤ R.frames) (hlo : W + 65 ≤ R.locals) :
    Back l R p e below s args New1.yN len W (fun P a => a = #[.ref x, .ref b] ∧ P.U.heap = h ∧ P.cells + 1 ≤ R.cells ∧ P.slots + A.slots.size ≤ R.slots)
      (fun P _ v B => ∃ L, Q Z x A h v B.U.heap L ∧ B.locs = P.locs ++ L ∧ B.cells = P.cells + 1 ∧ B.slots = P.slots + A.slots.size) := by
  intro m meth c P g ig mk a X hg hsize hdg hW hn hp'
  obtain ⟨rfl, rfl, r1, r2⟩ := hp'
  have al : Z.vm.Alike P.U.vm := hZ.alike.trans X.warmed.alike
  obtain ⟨D, cfV, kV, iV, fV, hD, gV, stV, knV, obV, asV, slV⟩ := id V
  obtain ⟨D', cfC, kC, iC, fC, hD', gC, stC, -, -, asC, slC⟩ := id C
  cases hD.symm.trans hD'
  obtain ⟨D2, kD, e1, e2, e3, e4, e5⟩ := id E
  cases hD.symm.trans e1
  obtain ⟨c2, k2, i1, i2, i3, -⟩ := Cond.instantiable_spec wi
  cases e2.symm.trans i1
  cases e3.symm.trans i2
  obtain ⟨kU, u1, u2⟩ := al.2.2 _ _ e3
  have hB : Blank ST x D P.U := ⟨hD, ⟨knV, fun q hq => by rw [hq] at obV; cases obV⟩, by rw [al.findClass]; exact e2, kU, u1, by rw [u2]; exact i3, by rw [u2]; exact e5 i3⟩
  have F1 : Found ST "value" "[B" fV P.U := ⟨SBG.found_only al ⟨cfV, kV, iV, gV⟩, stV⟩
  have F2 : Found ST "coder" "B" fC P.U := ⟨SBG.found_only al ⟨cfC, kC, iC, gC⟩, stC⟩
  have hA : Ch b A P.U := ⟨⟨K.1, State.isArrayOf_alike al K.2.1, K.2.2, by omega⟩, hty⟩
  have hS : StaticIs P.U ST "COMPACT_STRINGS" "Z" (.int z) := by
    obtain ⟨cfS, iS, kS, fS, st, cS, t1, t2, t3, t4, t5, t6, t7⟩ := S
    exact StaticIs.there (s := { Z with heap := P.U.heap }) ⟨cfS, iS, kS, fS, st, cS, t1, t2, t3, t4, t5, (fun q => by rw [q] at t6; cases t6), t7⟩ al rfl
  obtain ⟨v, B, X', ⟨⟨hv, E', V', q1, q2, q3, q4, q5, q6, q7, q8, q9, q10, q11⟩, hl, hc, hs⟩, st⟩ := New1.pays x D fV fC b A z (tab_of (moved hZ hw)) hfr hlo m meth c P g ig mk _ X hg hsize hdg hW hn ⟨r1, r2, rfl, hB, F1, F2, hA, hS, hz, l0, l2, hp⟩
  have al' : Z.vm.Alike B.U.vm := hZ.alike.trans X'.warmed.alike
  have hsz : E'.slots.size = D.slots.size := by
    obtain ⟨-, -, -, kB, w1, w2, w3⟩ := q1
    obtain ⟨kB', y1, y2⟩ := al'.2.2 _ _ e3
    rw [q2.2.1] at w1
    cases w1.symm.trans y1
    rw [w3, e5 i3, y2]
  refine ⟨v, B, X', ⟨_, ⟨hv, ?_, ⟨by omega, fun y cy hy hn' => q10 y cy (by simpa using hn') hy, fun y cy hy => ?_⟩, q11, ⟨E', _, q1.1, by rw [q2.2.1]; exact e2, by rw [q2.2.1]; exact e3, by rw [q2.1]; exact obV, fun _ => by rw [hsz]; exact e5 i3⟩,
    ⟨E', cfV, kV, iV, fV, q1.1, gV, stV, by rw [q2.1]; exact knV, by rw [q2.1]; exact obV, by rw [q2.2.1]; exact asV, q3⟩, ⟨E', cfC, kC, iC, fC, q1.1, gC, stC, by rw [q2.1]; exact knV, by rw [q2.1]; exact obV, by rw [q2.2.1]; exact asC, q4⟩,
    ⟨V', ⟨q5.1, State.isArrayOf_alike al'.symm q5.2.1, q5.2.2.1⟩, q6, by rw [← al'.findClass]; exact q7, q8, fun j hj => by have := q9 j hj; rwa [Nat.zero_add] at this⟩, fun O n d w F n1 n2 => ?_⟩, hl, hc, hs⟩, st⟩
  · intro y hy
    simp only [List.mem_cons, List.not_mem_nil, or_false] at hy
    rcases hy with rfl | rfl <;> rfl
  · by_cases q : y = x
    · subst q
      cases hD.symm.trans hy
      exact ⟨E', q1.1, q2.2.1, q2.1, hsz⟩
    · exact ⟨cy, q10 y cy q hy, rfl, rfl, rfl⟩
  · obtain ⟨D3, cf, k, i, f, g1, g2, g3, g4, g5, g6, g7⟩ := F
    cases hD.symm.trans g1
    simp only [RoadKit.slotOf, g2, gV, gC, Option.map_some, Option.getD_some] at n1 n2
    exact ⟨E', cf, k, i, f, q1.1, g2, g3, by rw [q2.1]; exact g4, by rw [q2.1]; exact g5, by rw [q2.2.1]; exact g6, by rw [q2.2.2 f.slot (by simp [n1, n2])]; exact g7⟩
end StrChars.Road
namespace StrChars.Road
open Jvm Sem ClassFile Op Lib Jvm.Stand Jvm.Free Jvm.Free.XT
/-- WHAT COMES BACK, the byte[] as a list of values -/
def QA (Z : State) (x : Addr) (zn : Int32) (cs : List Int32) (h : Heap) (v : Option Value) (h' : Heap) (L : List Loc) : Prop := v = none ∧ (∀ y ∈ L, y.base = x) ∧ RoadKit.Keep h h' [x] ∧ h'.size = h.size + 1 ∧ RoadKit.Exa Z h' x ST ∧ RoadKit.Fld Z h' x ST "value" "[B" (.ref h.size) ∧ RoadKit.Fld Z h' x ST "coder" "B" (.int 0) ∧
  (∃ kb, Z.vm.findClass "[B" = some kb ∧ RoadKit.Arv Z h' h.size kb .byte zn (cs.map fun c => .int (lo8 c)) (.int 0)) ∧
  ∀ (O n d : String) (w : Value), RoadKit.Fld Z h x O n d w → RoadKit.slotOf Z O n d ≠ RoadKit.slotOf Z ST "value" "[B" → RoadKit.slotOf Z O n d ≠ RoadKit.slotOf Z ST "coder" "B" → RoadKit.Fld Z h' x O n d w
/-- **new String(chars) AT A CALL, THE ARRAYS AS LISTS**: the char[] at b holds cs, not empty, no char above 255 -/
theorem backArv {p : Program} {l : Launch} {e : Env} {R : Room} {s : State} {args : Array Value} {below : List Frame} {len W : Nat} {Z : State} {a0 : Array Value} {h : Heap} (hZ : Z.Warmed39 s.vm) (hw : ∀ d ∈ words, d.before a0 Z = true) {kI : Nat} (wi : (Jvm.Cond.instantiable ST kI).before a0 Z = true)
    {x b : Addr} {k : ClassId} {zn z : Int32} {cs : List Int32} {dv v0 c0 : Value} (E : RoadKit.Exa Z h x ST) (V : RoadKit.Fld Z h x ST "value" "[B" v0) (C : RoadKit.Fld Z h x ST "coder" "B" c0) (K : RoadKit.Arv Z h b k .char zn (cs.map Value.int) dv) (S : RoadKit.Sta Z h ST "COMPACT_STRINGS" "Z" (.int z)) (hz : ¬ z = 0)
    (hlen : zn.toNatClampNeg = cs.length) (h0 : 0 < cs.length) (hbig : cs.length ≤ 536870912) (hall : ∀ c ∈ cs, ¬ 255 < c) (hfr : 4 ≤ R.frames) (hlo : W + 65 ≤ R.locals) :
    Back l R p e below s args New1.yN len W (fun P a => a = #[.ref x, .ref b] ∧ P.U.heap = h ∧ P.cells + 1 ≤ R.cells ∧ P.slots + cs.length ≤ R.slots)
      (fun P _ v B => ∃ L, QA Z x zn cs h v B.U.heap L ∧ B.locs = P.locs ++ L ∧ B.cells = P.cells + 1 ∧ B.slots = P.slots + cs.length) := by
  obtain ⟨A, K1, K2, K3, K4, K5, K6⟩ := K
  have e : A.slots.size = cs.length := K3.trans hlen
  have hat : ∀ (i : Nat) (hi : i < cs.length), A.slots[i]? = some (.int cs[i]) := fun i hi => by rw [K5 i (by omega)]; simp [List.getD_eq_getElem?_getD, hi]
  have hcv : ∀ (i : Nat) (hi : i < cs.length), cv A i = cs[i] := fun i hi => by unfold cv; rw [hat i hi]
  have hty : Typed .char A := fun i v hv => by
    have hi : i < A.slots.size := (Array.getElem?_eq_some_iff.mp hv).1
    have q := K5 i hi
    rw [hv] at q
    rw [Option.some.inj q]
    exact K6 i hi
  refine Back.mono (back hZ hw wi E V C K1 hty S hz (by omega) (by omega) (fun i hi => by rw [hcv i (by omega)]; exact hall _ (List.getElem_mem _)) hfr hlo) (fun P a hp => ⟨hp.1, hp.2.1, hp.2.2.1, by rw [e]; exact hp.2.2.2⟩) (fun P a v B hp hq => ?_)
  obtain ⟨L, ⟨q1, q2, q3, q4, q5, q6, q7, ⟨V', v1, v2, v3, v4, v5⟩, q9⟩, hl, hc, hs⟩ := hq
  refine ⟨L, ⟨q1, q2, q3, q4, q5, q6, q7, ⟨V'.cls, v3, V', v1, rfl, by rw [v4, e, hlen], K4, fun i hi => ?_, fun i hi => ?_⟩, q9⟩, hl, hc, by rw [hs, e]⟩
  · have hi' : i < cs.length := by omega
    rw [v5 i (by omega), hcv i hi']; simp [List.getD_eq_getElem?_getD, hi']
  · have hi' : i < cs.length := by omega
    simp only [List.getD_eq_getElem?_getD, List.getElem?_map, List.getElem?_eq_getElem hi', Option.map_some, Option.getD_some]
    exact fits_lo8 _
end StrChars.Road
namespace StrChars.Road
open Jvm Sem ClassFile Op Lib Jvm.Stand Jvm.Free Jvm.Free.XT
/-- WHAT COMES BACK, in the writer's own shape -/
def QV (Z : State) (x : Addr) (N : Int32) (bs : List Int32) (h : Heap) (n0 : Nat) (v : Option Value) (h' : Heap) (L : List Loc) : Prop := v = none ∧ RoadKit.Fr n0 L ∧ RoadKit.Keep h h' [x] ∧ RoadKit.Exa Z h' x ST ∧ RoadKit.Fld Z h' x ST "coder" "B" (.int 0) ∧
  ∃ (t : Addr) (kb : ClassId), n0 ≤ t ∧ h.size ≤ t ∧ ¬ t = x ∧ RoadKit.Fld Z h' x ST "value" "[B" (.ref t) ∧ RoadKit.Arv Z h' t kb .byte N (bs.map Value.int) (.int 0)
/-- **new String(chars) AT A CALL, FOR THE WRITER**: a char[] of n known ints, each 0 to 255 -/
theorem backV {p : Program} {l : Launch} {e : Env} {R : Room} {s : State} {args : Array Value} {below : List Frame} {len W : Nat} {Z : State} {a0 : Array Value} {h : Heap} (hZ : Z.Warmed39 s.vm) (hw : ∀ d ∈ words, d.before a0 Z = true) {kI : Nat} (wi : (Jvm.Cond.instantiable ST kI).before a0 Z = true)
    {x b : Addr} {kC : ClassId} {cs bs : List Int32} {d v0 c0 : Value} {z N : Int32} {n n0 : Nat} (hx0 : n0 ≤ x) (hh0 : n0 ≤ h.size) (E : RoadKit.Exa Z h x ST) (V : RoadKit.Fld Z h x ST "value" "[B" v0) (C : RoadKit.Fld Z h x ST "coder" "B" c0) (K : RoadKit.Arv Z h b kC .char N (cs.map Value.int) d) (S : RoadKit.Sta Z h ST "COMPACT_STRINGS" "Z" (.int z)) (hz : ¬ z = 0)
    (hn : cs.length = n) (hN : N = Int32.ofNat n) (l0 : 0 < n) (l2 : n ≤ 4000) (hp : ∀ c ∈ cs, ¬ c < 0 ∧ ¬ (255 : Int32) < c) (hb : bs = cs.map (fun c => c.toInt8.toInt32)) (hfr : 4 ≤ R.frames) (hlo : W + 65 ≤ R.locals) :
    Back l R p e below s args (⟨"java/lang/String", "<init>", "([C)V"⟩ : MethodName) len W (fun P a => a = #[.ref x, .ref b] ∧ P.U.heap = h ∧ P.cells + 1 ≤ R.cells ∧ P.slots + n ≤ R.slots)
      (fun P _ v B => ∃ L, QV Z x N bs h n0 v B.U.heap L ∧ B.locs = P.locs ++ L ∧ B.cells = P.cells + 1 ∧ B.slots = P.slots + n) := by
  subst hn hN hb
  refine Back.mono (backArv hZ hw wi E V C K S hz (n32 (by omega)) l0 (by omega) (fun c hc => (hp c hc).2) hfr hlo) (fun P a hp => hp) (fun P a v B hp hq => ?_)
  obtain ⟨L, ⟨q1, q2, q3, q4, q5, q6, q7, ⟨kb, v1, v2⟩, q9⟩, hl, hc, hs⟩ := hq
  exact ⟨L, ⟨q1, fun y hy => by rw [q2 y hy]; exact hx0, q3, q5, q7, h.size, kb, hh0, Nat.le_refl _, Nat.ne_of_gt E.lt, q6, by rw [List.map_map]; exact v2⟩, hl, hc, hs⟩
end StrChars.Road
end Jvm.Pilot.@@N@@

namespace Jvm.Pilot.@@N@@
open Jvm Jvm.ClassFile Sem Op Lib Jvm.Free Jvm.Stand Jvm.LawKit Jvm.RoadKit Bundle Jvm.Pilot.@@N@@.Jvm.D
/-- the walk's goal, seen from a state: it comes to an end of which P holds -/
def OwnFin (tb : Tables) (e : Env) (below : List Frame) (P : State → Outcome → Prop) (S : State) : Prop := ∃ t o, Steps tb e below S t ∧ P t o
theorem OwnFin.adv {tb : Tables} {e : Env} {below : List Frame} {P : State → Outcome → Prop} {A B : State} (h : ∀ t, Steps tb e below B t → Steps tb e below A t) (k : OwnFin tb e below P B) : OwnFin tb e below P A := by
  obtain ⟨t, o, h1, h2⟩ := k
  exact ⟨t, o, h t h1, h2⟩
theorem OwnFin.entry {tb : Tables} {e : Env} {below : List Frame} {P : State → Outcome → Prop} {T : State} {g g' : JFrame} (q : g = g') (k : ∀ P', P' = P → OwnFin tb e below P' (T.setTop g')) : ∃ t o, Steps tb e below (T.setTop g) t ∧ P t o := by
  subst q; exact k P rfl
theorem OwnFin.leaf {tb : Tables} {e : Env} {below : List Frame} {P P' : State → Outcome → Prop} {S : State} (q : P' = P) (k : ∃ t o, Steps tb e below S t ∧ P t o) : OwnFin tb e below P' S := by
  subst q; exact k
theorem own_lt {a b : Nat} (h : a < b) : a < b := h
theorem own_ne {a b : Nat} (h : a < b ∨ b < a) : a ≠ b := by omega
theorem own_monoW {s t : State} {o : Outcome} {L : List Loc} {k n k' n' : Nat} (h : ReturnedEndW s o t L k n) (hk : k ≤ k') (hn : n ≤ n') : ReturnedEndW s o t L k' n' := ⟨h.1, h.2.1, h.2.2.1, h.2.2.2.mono hk hn⟩
theorem own_chend {Z : State} {EL : List (String × Nat)} {vm1 vm2 : Vm} {U0 U1 : State} {h0 h1 : Heap} (A : CHr Z EL U0.vm h0 vm1 h1) (B : CHr Z EL vm1 h1 vm2 h1) (e0 : U0.heap = h0) (e1 : U1.heap = h1) : CHr Z EL U0.vm U0.heap vm2 U1.heap := by
  rw [e0, e1]; exact A.trans B
theorem own_staK {Z : State} {n0 : Nat} {h : Heap} {C n d : String} {v : Value} (S : Sta Z Z.heap C n d v) (O : Old Z n0 h) : Sta Z h C n d v := S.ext O.2
section OwnRet
variable {p : Program} {l : Launch} {e : Env} {R : Room} {s : State} {m : MethodId} {args : Array Value} {below : List Frame} {meth : Method} {c : Code} {T : State} {locs : List Loc} {cells slots : Nat}
theorem own_retI (X : Stand p l e R s m args below meth c T locs cells slots) (hx : p.tables.exec = Jvm.exec) {pc : Nat} {Ls : Array Slot} {z : Int32} {rest : List Value} (hret : meth.sig.returnType = some .int) (hd : decode c.code pc = .ok (.ireturn, 1)) {fs : List Frame}
    (hl : ∀ (f : JFrame) (acts : List Action), f.method = m → f.locked = none → f.entered = [] → (doReturn e (T.setTop f) acts (some (.int z))).1 = T.setFrames fs) : Steps p.tables e below (T.setTop (mkF m pc Ls (.int z :: rest))) (T.setFrames fs) :=
  retOut X hx hret rfl (Or.inl ⟨rfl, Or.inl rfl, z, rfl⟩) hd hl
theorem own_retL (X : Stand p l e R s m args below meth c T locs cells slots) (hx : p.tables.exec = Jvm.exec) {pc : Nat} {Ls : Array Slot} {z : Int64} {rest : List Value} (hret : meth.sig.returnType = some .long) (hd : decode c.code pc = .ok (.lreturn, 1)) {fs : List Frame}
    (hl : ∀ (f : JFrame) (acts : List Action), f.method = m → f.locked = none → f.entered = [] → (doReturn e (T.setTop f) acts (some (.long z))).1 = T.setFrames fs) : Steps p.tables e below (T.setTop (mkF m pc Ls (.long z :: rest))) (T.setFrames fs) :=
  retOut X hx hret rfl (Or.inr (Or.inl ⟨rfl, rfl, z, rfl⟩)) hd hl
theorem own_retR (X : Stand p l e R s m args below meth c T locs cells slots) (hx : p.tables.exec = Jvm.exec) {pc : Nat} {Ls : Array Slot} {w : Value} {t : FieldType} {rest : List Value} (hret : meth.sig.returnType = some t) (ht : t.isReference = true) (hn : narrow t w = w) (hw : w.isRef = true) (hd : decode c.code pc = .ok (.areturn, 1)) {fs : List Frame}
    (hl : ∀ (f : JFrame) (acts : List Action), f.method = m → f.locked = none → f.entered = [] → (doReturn e (T.setTop f) acts (some w)).1 = T.setFrames fs) : Steps p.tables e below (T.setTop (mkF m pc Ls (w :: rest))) (T.setFrames fs) :=
  retOut X hx hret hn (Or.inr (Or.inr (Or.inr (Or.inr ⟨rfl, ht, hw⟩)))) hd hl
end OwnRet
theorem own_eqI {args : Array Value} {first s : State} {o : Option Outcome} {idx : List Nat} {t : Term} {k : Int32} (h : (Cond.eq t (Term.int k)).value args first o s idx = some true) : t.eval args first o idx s = some (.int k) := by
  simp only [Cond.value, Term.eval] at h
  cases ht : t.eval args first o idx s with
  | none => simp [ht] at h
  | some x => cases x <;> simp [ht] at h ⊢; exact h
theorem own_fldI {Z : State} {args : Array Value} {t : Term} {a : Addr} {C n d : String} {k : Int32} (ht : t.eval args Z none [] Z = some (.ref a)) (h : (Cond.eq (Term.field t C n d) (Term.int k)).value args Z none Z [] = some true) : Fld Z Z.heap a C n d (.int k) :=
  Fld.start ((fld_at ht).symm.trans (own_eqI h))
theorem own_len {args : Array Value} {first s : State} {o : Option Outcome} {idx : List Nat} {t : Term} {a : Addr} {cl : Cell} {k : Int32} (ht : t.eval args first o idx s = some (.ref a)) (ha : s.arrayAt? a = some cl) (h : (Cond.eq (Term.length t) (Term.int k)).value args first o s idx = some true) : cl.slots.size < 2 ^ 31 ∧ cl.slots.size.toInt32 = k := by
  have e := own_eqI h
  by_cases hn : cl.slots.size < 2 ^ 31
  · rw [len_f ht ha hn] at e
    exact ⟨hn, Value.int.inj (Option.some.inj e)⟩
  · simp [Term.eval, ht, ha, hn] at e
theorem own_boxes {Z : State} {args : Array Value} (hs : ∀ d ∈ ([Cond.arrayOf (Term.static "java/lang/Integer$IntegerCache" "cache" "[Ljava/lang/Integer;") (.object "java/lang/Integer"), Cond.eq (Term.length (Term.static "java/lang/Integer$IntegerCache" "cache" "[Ljava/lang/Integer;")) (Term.int (256 : Int32)), Cond.all (Term.static "java/lang/Integer$IntegerCache" "cache" "[Ljava/lang/Integer;") (Cond.and (Cond.exactly (Term.elem (Term.static "java/lang/Integer$IntegerCache" "cache" "[Ljava/lang/Integer;") (Term.index (0 : Nat))) "java/lang/Integer") (Cond.eq (Term.field (Term.elem (Term.static "java/lang/Integer$IntegerCache" "cache" "[Ljava/lang/Integer;") (Term.index (0 : Nat))) "java/lang/Integer" "value" "I") (Term.sub (Term.index (0 : Nat)) (Term.int (128 : Int32)))))] : List Jvm.Cond), d.before args Z = true)
    (hi : (Cond.initialized "java/lang/Integer$IntegerCache").before args Z = true) (hl : (Cond.laysStatic "java/lang/Integer$IntegerCache" "cache" "[Ljava/lang/Integer;").before args Z = true) :
    ∃ (ca : Addr) (cl : Cell), Sta Z Z.heap "java/lang/Integer$IntegerCache" "cache" "[Ljava/lang/Integer;" (.ref ca) ∧ Bxs Z ca cl "java/lang/Integer" "I" 256 (fun j => .int (j - 128)) := by
  have h1 := Cond.before_iff.mp (hs _ (List.mem_of_getElem? (i := 0) rfl))
  have h2 := Cond.before_iff.mp (hs _ (List.mem_of_getElem? (i := 1) rfl))
  have h3 := Cond.before_iff.mp (hs _ (List.mem_of_getElem? (i := 2) rfl))
  obtain ⟨ca, ev⟩ := arr_v h1
  obtain ⟨cl, A⟩ := Arr.start ev h1
  obtain ⟨q, e⟩ := own_len ev (A.fin (Vm.Alike.refl _)) h2
  refine ⟨ca, cl, Sta.start ev (Or.inr ⟨hi, hl⟩), Bxs.start (fun idx => ev) A q e (by decide) h3 (fun X j nn hX => eqv_i ?_ hX)⟩
  have := idx_at (args := args) (first := Z) (o := none) (s := Z) nn
  simp [Term.eval] at this ⊢
  exact this
theorem own_m7 (x : Int32) : (x &&& (7 : Int32)) = 0 ∨ (x &&& (7 : Int32)) = 1 ∨ (x &&& (7 : Int32)) = 2 ∨ (x &&& (7 : Int32)) = 3 ∨ (x &&& (7 : Int32)) = 4 ∨ (x &&& (7 : Int32)) = 5 ∨ (x &&& (7 : Int32)) = 6 ∨ (x &&& (7 : Int32)) = 7 := by
  have h := c_mask x 7 3 (by decide) (by decide)
  have h8 : (x &&& (7 : Int32)).toInt = 0 ∨ (x &&& (7 : Int32)).toInt = 1 ∨ (x &&& (7 : Int32)).toInt = 2 ∨ (x &&& (7 : Int32)).toInt = 3 ∨ (x &&& (7 : Int32)).toInt = 4 ∨ (x &&& (7 : Int32)).toInt = 5 ∨ (x &&& (7 : Int32)).toInt = 6 ∨ (x &&& (7 : Int32)).toInt = 7 := by omega
  rcases h8 with q | q | q | q | q | q | q | q
  · exact Or.inl (Int32.toInt_inj.mp q)
  · exact Or.inr (Or.inl (Int32.toInt_inj.mp q))
  · exact Or.inr (Or.inr (Or.inl (Int32.toInt_inj.mp q)))
  · exact Or.inr (Or.inr (Or.inr (Or.inl (Int32.toInt_inj.mp q))))
  · exact Or.inr (Or.inr (Or.inr (Or.inr (Or.inl (Int32.toInt_inj.mp q)))))
  · exact Or.inr (Or.inr (Or.inr (Or.inr (Or.inr (Or.inl (Int32.toInt_inj.mp q))))))
  · exact Or.inr (Or.inr (Or.inr (Or.inr (Or.inr (Or.inr (Or.inl (Int32.toInt_inj.mp q)))))))
  · exact Or.inr (Or.inr (Or.inr (Or.inr (Or.inr (Or.inr (Or.inr (Int32.toInt_inj.mp q)))))))
theorem own_safeStr {Z : State} {EL : List (String × Nat)} {vm : Vm} {h : Heap} {x : Addr} (hal : Z.vm.Alike vm) (E : Exa Z h x "java/lang/String") (F : Fld Z h x "java/lang/String" "value" "[B" .null) : Safe Z EL vm h x := fun B => by
  obtain ⟨p, hp, u, a, hb, q, hq, ⟨cS, ⟨⟨s1, s2, s3, ⟨c1, k1, i1, f1, f1'⟩, s5, s6, s7, s8, s9, s10, -⟩, -⟩, -, hB, -⟩, hy⟩ := B
  rcases hy with hy | hy
  · subst hy
    obtain ⟨cell, cf, k, i, f, h1, h2, h3, h4, h5, h6, h7⟩ := F
    have e1 : q.sC = cell := Option.some.inj ((show h[q.sa]? = some q.sC from s1).symm.trans h1)
    obtain ⟨k3, e3, -⟩ := State.fieldFound?_setVm (s := Z) hal h2
    have e4 := (show (Wst Z vm h).fieldFound? _ _ _ = _ from e3).symm.trans f1
    simp only [Option.some.injEq, Prod.mk.injEq] at e4
    rw [e1, ← e4.2.2.2, h7] at s8
    cases s8
  · subst hy
    obtain ⟨cell, k, g1, g2, g3, -⟩ := E
    have e1 : q.SA = cell := Option.some.inj ((show h[q.sd]? = some q.SA from s10).symm.trans g1)
    have hB' : Z.vm.findClass "[B" = some q.SA.cls := (hal.findClass _ _).symm.trans hB
    exact ids_ne g2 hB' (by decide) (by rw [e1])
theorem own_and255 (x : Int32) : ¬ (x &&& (255 : Int32)) < 0 ∧ ¬ (255 : Int32) < (x &&& (255 : Int32)) := by
  have h := c_mask x 255 8 (by decide) (by decide)
  have e : (255 : Int32).toInt = 255 := by decide
  have e0 : (0 : Int32).toInt = 0 := by decide
  rw [Int32.lt_iff_toInt_lt, Int32.lt_iff_toInt_lt, e, e0, h]
  omega

def own_EL : List (String × Nat) := [("java/lang/String", 7)]
theorem own_EW {Z : State} {a0 : Array Value} (hw : ∀ d ∈ tables_1, d.before a0 Z = true) : EW Z a0 own_EL := (EW.cons (hw _ (List.mem_of_getElem? (i := 34) rfl)) (by decide +kernel) EW.nil)
theorem own_d22_0 : decode jdk_18_method_1_code 0 = .ok (.aload_n 0, 1) := by decide +kernel
theorem own_d22_1 : decode jdk_18_method_1_code 1 = .ok (.invokespecial 1, 3) := by decide +kernel
theorem own_d22_4 : decode jdk_18_method_1_code 4 = .ok (.return_, 1) := by decide +kernel
theorem own_ef_numInit (m : MethodId) (x0 : Addr) : entryFrame m #[(.ref x0)] 1 = mkF m 0 #[.val (.ref x0)] [] := by first | (simp [entryFrame, mkF, argsToLocals, Value.category]; done) | rfl
theorem own_pn_java_lang_Number : plainName "java/lang/Number" = true := by first | (simp [plainName, overriddenIn]; done) | decide +kernel
def own_Q_numInit (Z : State) (ob : Addr) (h0 : Heap) (n0 : Nat) (v : Option Value) (h : Heap) (L : List Loc) : Prop := v = none ∧ Fr n0 L ∧ h = h0
set_option maxRecDepth 65536 in
set_option maxHeartbeats 40000000 in
theorem own_numInit (l : Launch) (Z : State) (a0 : Array Value) (hw : ∀ d ∈ tables_1, d.before a0 Z = true) (ws : List Jvm.Cond) (ob : Addr) (h0 : Heap) (n0 : Nat) (Z0 : n0 ≤ h0.size) :
    MetFree l (⟨"java/lang/Number", "<init>", "()V"⟩ : MethodName) (head1 (Jvm.Cond.code (⟨"java/lang/Number", "<init>", "()V"⟩ : MethodName) jdk_18_method_1_code 1 none :: ws) ({ frames := 1, cells := 0, slots := 0, locals := 12 } : Room)) (fun A0 U0 => A0 = #[(.ref ob)] ∧ Z.Warmed39 U0.vm ∧ U0.heap = h0) (fun _ _ _ _ _ => True) (fun _ U0 o0 U1 => ∃ v0 L0, o0 = .returned v0 ∧ own_Q_numInit Z ob h0 n0 v0 U1.heap L0 ∧ FrameEnd U0 o0 U1 L0 ({ frames := 1, cells := 0, slots := 0, locals := 12 } : Room).cells ({ frames := 1, cells := 0, slots := 0, locals := 12 } : Room).slots) := by
  refine MetFree.of_bodySF (plainFor_of_name own_pn_java_lang_Number) hisR ?_
  intro p e s m args below meth c s₁ Bd hml0 hP hK
  obtain ⟨rfl, hZ, hh⟩ := hP
  have hx := Bd.exec
  have hby := Bd.bytes
  have hml : c.maxLocals = 1 := hml0
  have hown : s.vm.findClass "java/lang/Number" = some m.cls := findClass_of_methodNamed Bd.named
  have hnm := (name_of_methodNamed Bd.named Bd.method).1
  have X0 : Stand p l e ({ frames := 1, cells := 0, slots := 0, locals := 12 } : Room) s m #[(.ref ob)] below meth c s₁ [] 0 0 := Stand.of_body Bd
  have e0 : s₁.heap = h0 := by rw [← hh, Bd.state]; rfl
  have N0 := Fr.nil n0
  refine OwnFin.entry (own_ef_numInit m ob) (fun P' hP' => ?_)
  refine OwnFin.adv (B := s₁.setTop (mkF m 1 #[.val (.ref ob)] [(.ref ob)])) (fun _ k => XS.aloadN X0.here hx rfl (hb hby own_d22_0) rfl rfl k) ?_
  obtain ⟨T1, X1, e1, st1⟩ := initO X0 hx hZ hown (hw _ (List.mem_of_getElem? (i := 148) rfl)) (hw _ (List.mem_of_getElem? (i := 32) rfl)) (hw _ (List.mem_of_getElem? (i := 33) rfl)) e0 (g := (mkF m 1 #[.val (.ref ob)] [(.ref ob)])) rfl (by rw [hml]; rfl) rfl (hb hby own_d22_1) (by decide) (W := 0) (by show 2 * 0 + _ ≤ _; exact Nat.le_of_eq rfl) (by decide)
  refine OwnFin.adv (B := T1.setTop (mkF m 4 #[.val (.ref ob)] [])) (fun _ k => st1 _ k) ?_
  obtain ⟨fs, hr, hrun, hended, hW, hsame⟩ := X1.leave (v := none) (fun _ => rfl)
  refine OwnFin.leaf hP' ⟨_, _, X1.returnOut hx Bd.returns (hb hby own_d22_4) hr, hrun, hended, _, _, rfl, ?_, ⟨_, rfl⟩, hW, hsame.mono (by decide) (by decide)⟩
  exact ⟨rfl, N0, e1⟩
theorem own_d21_0 : decode jdk_33_method_23_code 0 = .ok (.aload_n 0, 1) := by decide +kernel
theorem own_pd_x28x29V : parseMethodDescriptor "()V" = some ⟨[], none⟩ := by decide +kernel
theorem own_d21_1 : decode jdk_33_method_23_code 1 = .ok (.invokespecial 202, 3) := by decide +kernel
theorem own_d21_4 : decode jdk_33_method_23_code 4 = .ok (.aload_n 0, 1) := by decide +kernel
theorem own_d21_5 : decode jdk_33_method_23_code 5 = .ok (.iload_n 1, 1) := by decide +kernel
theorem own_d21_6 : decode jdk_33_method_23_code 6 = .ok (.putfield 205, 3) := by decide +kernel
theorem own_d21_9 : decode jdk_33_method_23_code 9 = .ok (.return_, 1) := by decide +kernel
theorem own_ef_intInit (m : MethodId) (x0 : Addr) (x1 : Int32) : entryFrame m #[(.ref x0), (.int x1)] 2 = mkF m 0 #[.val (.ref x0), .val (.int x1)] [] := by first | (simp [entryFrame, mkF, argsToLocals, Value.category]; done) | rfl
theorem own_pn_java_lang_Integer : plainName "java/lang/Integer" = true := by first | (simp [plainName, overriddenIn]; done) | decide +kernel
def own_Q_intInit (Z : State) (ob : Addr) (pv : Int32) (u0 : Value) (h0 : Heap) (n0 : Nat) (v : Option Value) (h : Heap) (L : List Loc) : Prop := v = none ∧ Fr n0 L ∧ Keep h0 h [ob] ∧ Fld Z h ob "java/lang/Integer" "value" "I" (.int pv)
set_option maxRecDepth 65536 in
set_option maxHeartbeats 40000000 in
theorem own_intInit (l : Launch) (Z : State) (a0 : Array Value) (hw : ∀ d ∈ tables_1, d.before a0 Z = true) (ws : List Jvm.Cond) (ob : Addr) (pv : Int32) (u0 : Value) (h0 : Heap) (n0 : Nat) (Z0 : n0 ≤ h0.size) (E : Exa Z h0 ob "java/lang/Integer") (F : Fld Z h0 ob "java/lang/Integer" "value" "I" u0) (g_ob : n0 ≤ ob) :
    MetFree l (⟨"java/lang/Integer", "<init>", "(I)V"⟩ : MethodName) (head1 (Jvm.Cond.code (⟨"java/lang/Integer", "<init>", "(I)V"⟩ : MethodName) jdk_33_method_23_code 2 none :: ws) ({ frames := 2, cells := 0, slots := 0, locals := 24 } : Room)) (fun A0 U0 => A0 = #[(.ref ob), (.int pv)] ∧ Z.Warmed39 U0.vm ∧ U0.heap = h0) (fun _ _ _ _ _ => True) (fun _ U0 o0 U1 => ∃ v0 L0, o0 = .returned v0 ∧ own_Q_intInit Z ob pv u0 h0 n0 v0 U1.heap L0 ∧ FrameEnd U0 o0 U1 L0 ({ frames := 2, cells := 0, slots := 0, locals := 24 } : Room).cells ({ frames := 2, cells := 0, slots := 0, locals := 24 } : Room).slots) := by
  refine MetFree.of_bodySF (plainFor_of_name own_pn_java_lang_Integer) hisR ?_
  intro p e s m args below meth c s₁ Bd hml0 hP hK
  obtain ⟨rfl, hZ, hh⟩ := hP
  have hx := Bd.exec
  have hby := Bd.bytes
  have hml : c.maxLocals = 2 := hml0
  have hown : s.vm.findClass "java/lang/Integer" = some m.cls := findClass_of_methodNamed Bd.named
  have hnm := (name_of_methodNamed Bd.named Bd.method).1
  have X0 : Stand p l e ({ frames := 2, cells := 0, slots := 0, locals := 24 } : Room) s m #[(.ref ob), (.int pv)] below meth c s₁ [] 0 0 := Stand.of_body Bd
  have e0 : s₁.heap = h0 := by rw [← hh, Bd.state]; rfl
  have N0 := Fr.nil n0
  refine OwnFin.entry (own_ef_intInit m ob pv) (fun P' hP' => ?_)
  refine OwnFin.adv (B := s₁.setTop (mkF m 1 #[.val (.ref ob), .val (.int pv)] [(.ref ob)])) (fun _ k => XS.aloadN X0.here hx rfl (hb hby own_d21_0) rfl rfl k) ?_
  obtain ⟨_, _, ⟨T1, L1, k1, n1⟩, -, X1, ⟨Lc1, hQ1, l1, y1, z1⟩, st1⟩ := X0.specialBack hx (y := (⟨"java/lang/Number", "<init>", "()V"⟩ : MethodName)) rfl hown (mvT hZ (hw _ (List.mem_of_getElem? (i := 142) rfl))) (mvT hZ (hw _ (List.mem_of_getElem? (i := 143) rfl))) (mvT hZ (hw _ (List.mem_of_getElem? (i := 147) rfl))) (by decide) (backOf (W := 0) (own_numInit l Z a0 hw [] ob h0 n0 (by omega)) hZ (hw _ (List.mem_of_getElem? (i := 147) rfl)) (hw _ (List.mem_of_getElem? (i := 146) rfl)) (by decide) (by decide)) (g := (mkF m 1 #[.val (.ref ob), .val (.int pv)] [(.ref ob)])) rfl (by rw [hml]; rfl) (Steps.refl _) (a := ob) (argsL := []) (rest := []) (lenOf own_pd_x28x29V rfl) rfl (by show 2 * 0 + _ ≤ _; exact Nat.le_of_eq rfl) (hb hby own_d21_1) (fun _ _ => ⟨rfl, e0, (by decide : 0 + 0 ≤ _), (by decide : 0 + 0 ≤ _)⟩)
  dsimp only [Pt.U, Pt.locs, Pt.cells, Pt.slots] at X1 l1 y1 z1 st1 hQ1
  subst l1 y1 z1
  obtain ⟨rfl, N1q, eh1⟩ := hQ1
  have N1 := Fr.app N0 N1q
  refine OwnFin.adv (B := T1.setTop (mkF m 4 #[.val (.ref ob), .val (.int pv)] [])) (fun _ k => st1.trans k) ?_
  refine OwnFin.adv (B := T1.setTop (mkF m 5 #[.val (.ref ob), .val (.int pv)] [(.ref ob)])) (fun _ k => XS.aloadN X1.here hx rfl (hb hby own_d21_4) rfl rfl k) ?_
  refine OwnFin.adv (B := T1.setTop (mkF m 6 #[.val (.ref ob), .val (.int pv)] [(.int pv), (.ref ob)])) (fun _ k => XS.iloadN X1.here hx rfl (hb hby own_d21_5) rfl k) ?_
  obtain ⟨T2, h2, X2, e2, W2, st2⟩ := putF X1 hx hZ hown (host := "") (Or.inl (hw _ (List.mem_of_getElem? (i := 149) rfl))) Via.refl eh1 F E (Or.inr ⟨(hw _ (List.mem_of_getElem? (i := 150) rfl)), rfl, hnm⟩) (hw _ (List.mem_of_getElem? (i := 137) rfl)) (ty := .int) (by decide) rfl rfl (g := (mkF m 6 #[.val (.ref ob), .val (.int pv)] [(.int pv), (.ref ob)])) rfl rfl (hb hby own_d21_6)
  have Fw2 : Fld Z h2 ob "java/lang/Integer" "value" "I" (.int pv) := F.same W2
  have sz3 : h0.size ≤ h2.size := Nat.le_of_eq W2.size.symm
  have N2 := Fr.snoc X2 N1 (by omega : n0 ≤ ob)
  refine OwnFin.adv (B := T2.setTop (mkF m 9 #[.val (.ref ob), .val (.int pv)] [])) (fun _ k => st2 _ k) ?_
  obtain ⟨fs, hr, hrun, hended, hW, hsame⟩ := X2.leave (v := none) (fun _ => rfl)
  refine OwnFin.leaf hP' ⟨_, _, X2.returnOut hx Bd.returns (hb hby own_d21_9) hr, hrun, hended, _, _, rfl, ?_, ⟨_, rfl⟩, hW, hsame.mono (by decide) (by decide)⟩
  rw [show (T2.setFrames fs).heap = h2 from e2]
  exact ⟨rfl, N2, ((Keep.refl h0 [ob]).wr W2 (Or.inl (List.mem_of_getElem? (i := 0) rfl))), Fw2⟩
theorem own_inbox {i : Int32} (h1 : ¬ i < (-128 : Int32)) (h2 : ¬ (127 : Int32) < i) : ¬ (i + (128 : Int32)) < 0 ∧ (i + (128 : Int32)) < (256 : Int32) := by
  have e := c_iadd i 128
  have r := rng32 (i + 128)
  have r0 := rng32 i
  rw [Int32.lt_iff_toInt_lt] at h1 h2 ⊢
  rw [Int32.lt_iff_toInt_lt]
  have a1 : (-128 : Int32).toInt = -128 := by decide
  have a2 : (127 : Int32).toInt = 127 := by decide
  have a3 : (128 : Int32).toInt = 128 := by decide
  have a4 : (256 : Int32).toInt = 256 := by decide
  have a5 : (0 : Int32).toInt = 0 := by decide
  rw [a1] at h1; rw [a2] at h2; rw [a3] at e; rw [a4, a5]
  omega
theorem own_d13_0 : decode jdk_33_method_22_code 0 = .ok (.iload_n 0, 1) := by decide +kernel
theorem own_d13_1 : decode jdk_33_method_22_code 1 = .ok (.bipush (-128), 2) := by decide +kernel
theorem own_d13_3 : decode jdk_33_method_22_code 3 = .ok (.if_icmp .lt 20, 3) := by decide +kernel
theorem own_d13_23 : decode jdk_33_method_22_code 23 = .ok (.new 1, 3) := by decide +kernel
theorem own_d13_26 : decode jdk_33_method_22_code 26 = .ok (.dup, 1) := by decide +kernel
theorem own_d13_27 : decode jdk_33_method_22_code 27 = .ok (.iload_n 0, 1) := by decide +kernel
theorem own_pd_x28Ix29V : parseMethodDescriptor "(I)V" = some ⟨[.int], none⟩ := by decide +kernel
theorem own_d13_28 : decode jdk_33_method_22_code 28 = .ok (.invokespecial 199, 3) := by decide +kernel
theorem own_d13_31 : decode jdk_33_method_22_code 31 = .ok (.areturn, 1) := by decide +kernel
theorem own_d13_6 : decode jdk_33_method_22_code 6 = .ok (.iload_n 0, 1) := by decide +kernel
theorem own_d13_7 : decode jdk_33_method_22_code 7 = .ok (.getstatic 191, 3) := by decide +kernel
theorem own_d13_10 : decode jdk_33_method_22_code 10 = .ok (.if_icmp .gt 13, 3) := by decide +kernel
theorem own_d13_13 : decode jdk_33_method_22_code 13 = .ok (.getstatic 195, 3) := by decide +kernel
theorem own_d13_16 : decode jdk_33_method_22_code 16 = .ok (.iload_n 0, 1) := by decide +kernel
theorem own_d13_17 : decode jdk_33_method_22_code 17 = .ok (.sipush 128, 3) := by decide +kernel
theorem own_d13_20 : decode jdk_33_method_22_code 20 = .ok (.iadd, 1) := by decide +kernel
theorem own_d13_21 : decode jdk_33_method_22_code 21 = .ok (.aaload, 1) := by decide +kernel
theorem own_d13_22 : decode jdk_33_method_22_code 22 = .ok (.areturn, 1) := by decide +kernel
theorem own_ef_valueOf (m : MethodId) (x0 : Int32) : entryFrame m #[(.int x0)] 1 = mkF m 0 #[.val (.int x0)] [] := by first | (simp [entryFrame, mkF, argsToLocals, Value.category]; done) | rfl
def own_Q_valueOf (Z : State) (iv : Int32) (ca : Addr) (cl : Cell) (h0 : Heap) (n0 : Nat) (v : Option Value) (h : Heap) (L : List Loc) : Prop := ∃ r : Addr, v = some (.ref r) ∧ Fr n0 L ∧ Keep h0 h [] ∧ Exa Z h r "java/lang/Integer"
set_option maxRecDepth 65536 in
set_option maxHeartbeats 40000000 in
theorem own_valueOf (l : Launch) (Z : State) (a0 : Array Value) (hw : ∀ d ∈ tables_1, d.before a0 Z = true) (ws : List Jvm.Cond) (iv : Int32) (ca : Addr) (cl : Cell) (h0 : Heap) (n0 : Nat) (Z0 : n0 ≤ h0.size) (O0 : Old Z n0 h0) (SH : Sta Z Z.heap "java/lang/Integer$IntegerCache" "high" "I" (.int (127 : Int32))) (SC : Sta Z Z.heap "java/lang/Integer$IntegerCache" "cache" "[Ljava/lang/Integer;" (.ref ca)) (BX : Bxs Z ca cl "java/lang/Integer" "I" 256 (fun j => .int (j - 128))) :
    MetFree l (⟨"java/lang/Integer", "valueOf", "(I)Ljava/lang/Integer;"⟩ : MethodName) (head1 (Jvm.Cond.code (⟨"java/lang/Integer", "valueOf", "(I)Ljava/lang/Integer;"⟩ : MethodName) jdk_33_method_22_code 1 (some (.object "java/lang/Integer")) :: ws) ({ frames := 3, cells := 1, slots := 1, locals := 38 } : Room)) (fun A0 U0 => A0 = #[(.int iv)] ∧ Z.Warmed39 U0.vm ∧ U0.heap = h0) (fun _ _ _ _ _ => True) (fun _ U0 o0 U1 => ∃ v0 L0, o0 = .returned v0 ∧ own_Q_valueOf Z iv ca cl h0 n0 v0 U1.heap L0 ∧ FrameEnd U0 o0 U1 L0 ({ frames := 3, cells := 1, slots := 1, locals := 38 } : Room).cells ({ frames := 3, cells := 1, slots := 1, locals := 38 } : Room).slots) := by
  refine MetFree.of_bodySF (plainFor_of_name own_pn_java_lang_Integer) hisR ?_
  intro p e s m args below meth c s₁ Bd hml0 hP hK
  obtain ⟨rfl, hZ, hh⟩ := hP
  have hx := Bd.exec
  have hby := Bd.bytes
  have hml : c.maxLocals = 1 := hml0
  have hown : s.vm.findClass "java/lang/Integer" = some m.cls := findClass_of_methodNamed Bd.named
  have hnm := (name_of_methodNamed Bd.named Bd.method).1
  have X0 : Stand p l e ({ frames := 3, cells := 1, slots := 1, locals := 38 } : Room) s m #[(.int iv)] below meth c s₁ [] 0 0 := Stand.of_body Bd
  have e0 : s₁.heap = h0 := by rw [← hh, Bd.state]; rfl
  have N0 := Fr.nil n0
  refine OwnFin.entry (own_ef_valueOf m iv) (fun P' hP' => ?_)
  refine OwnFin.adv (B := s₁.setTop (mkF m 1 #[.val (.int iv)] [(.int iv)])) (fun _ k => XS.iloadN X0.here hx rfl (hb hby own_d13_0) rfl k) ?_
  refine OwnFin.adv (B := s₁.setTop (mkF m 3 #[.val (.int iv)] [(.int (-128 : Int32)), (.int iv)])) (fun _ k => XS.bipush X0.here hx rfl (hb hby own_d13_1) k) ?_
  by_cases hc3 : iv < (-128 : Int32)
  ·
    refine OwnFin.adv (B := s₁.setTop (mkF m 23 #[.val (.int iv)] [])) (fun _ k => XS.icmpYes X0.here hx rfl (pc0 := 3) (pc' := 23) rfl (hb hby own_d13_3) rfl (tlt hc3).1 (by decide) (by decide) k) ?_
    obtain ⟨T1, h1, X1, e1, E1, A1, D1, -, st1⟩ := newO X0 hx hZ hown (hw _ (List.mem_of_getElem? (i := 136) rfl)) (hw _ (List.mem_of_getElem? (i := 137) rfl)) (hw _ (List.mem_of_getElem? (i := 96) rfl)) e0 (g := (mkF m 23 #[.val (.int iv)] [])) rfl (hb hby own_d13_23) (by decide) (by decide)
    obtain ⟨b1, g1⟩ : ∃ z, z = h0.size := ⟨_, rfl⟩
    rw [← g1] at A1 D1 st1
    have sz2 : h0.size ≤ h1.size := E1.1
    have lt_b1 := own_lt A1.lt
    have F1_value : Fld Z h1 b1 "java/lang/Integer" "value" "I" (.int (0 : Int32)) := D1 (Or.inr (hw _ (List.mem_of_getElem? (i := 150) rfl))) (ty := .int) (by decide)
    refine OwnFin.adv (B := T1.setTop (mkF m 26 #[.val (.int iv)] [(.ref b1)])) (fun _ k => st1 _ k) ?_
    refine OwnFin.adv (B := T1.setTop (mkF m 27 #[.val (.int iv)] [(.ref b1), (.ref b1)])) (fun _ k => XS.dup X1.here hx rfl (hb hby own_d13_26) rfl rfl k) ?_
    refine OwnFin.adv (B := T1.setTop (mkF m 28 #[.val (.int iv)] [(.int iv), (.ref b1), (.ref b1)])) (fun _ k => XS.iloadN X1.here hx rfl (hb hby own_d13_27) rfl k) ?_
    obtain ⟨_, _, ⟨T3, L3, k3, n3⟩, -, X3, ⟨Lc3, hQ3, l3, y3, z3⟩, st3⟩ := X1.specialBack hx (y := (⟨"java/lang/Integer", "<init>", "(I)V"⟩ : MethodName)) rfl hown (mvT hZ (hw _ (List.mem_of_getElem? (i := 138) rfl))) (mvT hZ (hw _ (List.mem_of_getElem? (i := 139) rfl))) (mvT hZ (hw _ (List.mem_of_getElem? (i := 141) rfl))) (by decide) (backOf (W := 1) (own_intInit l Z a0 hw [] b1 iv _ h1 n0 (by omega) A1 F1_value (by omega)) hZ (hw _ (List.mem_of_getElem? (i := 141) rfl)) (hw _ (List.mem_of_getElem? (i := 96) rfl)) (by decide) (by decide)) (g := (mkF m 28 #[.val (.int iv)] [(.int iv), (.ref b1), (.ref b1)])) rfl (by rw [hml]; rfl) (Steps.refl _) (a := b1) (argsL := [(.int iv)]) (rest := [(.ref b1)]) (lenOf own_pd_x28Ix29V rfl) rfl (by show 2 * 0 + _ ≤ _; exact Nat.le_of_eq rfl) (hb hby own_d13_28) (fun _ _ => ⟨rfl, e1, (by decide : 1 + 0 ≤ _), (by decide : 1 + 0 ≤ _)⟩)
    dsimp only [Pt.U, Pt.locs, Pt.cells, Pt.slots] at X3 l3 y3 z3 st3 hQ3
    subst l3 y3 z3
    obtain ⟨rfl, N3q, K3, Fi3⟩ := hQ3
    have N3 := Fr.app N0 N3q
    have sz4 : h1.size ≤ T3.heap.size := K3.1
    refine OwnFin.adv (B := T3.setTop (mkF m 31 #[.val (.int iv)] [(.ref b1)])) (fun _ k => st3.trans k) ?_
    obtain ⟨fs, hr, hrun, hended, hW, hsame⟩ := X3.leave (v := some (.ref b1)) (fun h => by rw [Bd.returns] at h; cases h)
    refine OwnFin.leaf hP' ⟨_, _, own_retR X3 hx Bd.returns rfl rfl rfl (hb hby own_d13_31) hr, hrun, hended, _, _, rfl, ?_, ⟨_, rfl⟩, hW, hsame.mono (by decide) (by decide)⟩
    have Fv5_2 : Exa Z T3.heap b1 "java/lang/Integer" := (A1.keep K3)
    rw [show (T3.setFrames fs).heap = T3.heap from rfl]
    exact ⟨_, rfl, N3, (((Keep.refl h0 []).ext E1).trans K3 (allS (Or.inr (by omega)) all0)), Fv5_2⟩
  ·
    refine OwnFin.adv (B := s₁.setTop (mkF m 6 #[.val (.int iv)] [])) (fun _ k => XS.icmpNo X0.here hx rfl (hb hby own_d13_3) rfl (flt hc3).1 k) ?_
    refine OwnFin.adv (B := s₁.setTop (mkF m 7 #[.val (.int iv)] [(.int iv)])) (fun _ k => XS.iloadN X0.here hx rfl (hb hby own_d13_6) rfl k) ?_
    obtain ⟨T6, X6, e6, st6⟩ := getS2 X0 hx hZ hown (host := "") (Or.inl (hw _ (List.mem_of_getElem? (i := 98) rfl))) Via.refl e0 (own_staK SH O0) (g := (mkF m 7 #[.val (.int iv)] [(.int iv)])) rfl (hb hby own_d13_7)
    refine OwnFin.adv (B := T6.setTop (mkF m 10 #[.val (.int iv)] [(.int (127 : Int32)), (.int iv)])) (fun _ k => st6 _ k) ?_
    by_cases hc10 : (127 : Int32) < iv
    ·
      refine OwnFin.adv (B := T6.setTop (mkF m 23 #[.val (.int iv)] [])) (fun _ k => XS.icmpYes X6.here hx rfl (pc0 := 10) (pc' := 23) rfl (hb hby own_d13_10) rfl (tlt hc10).2.2.1 (by decide) (by decide) k) ?_
      obtain ⟨T7, h7, X7, e7, E7, A7, D7, -, st7⟩ := newO X6 hx hZ hown (hw _ (List.mem_of_getElem? (i := 136) rfl)) (hw _ (List.mem_of_getElem? (i := 137) rfl)) (hw _ (List.mem_of_getElem? (i := 96) rfl)) e6 (g := (mkF m 23 #[.val (.int iv)] [])) rfl (hb hby own_d13_23) (by decide) (by decide)
      obtain ⟨b7, g7⟩ : ∃ z, z = h0.size := ⟨_, rfl⟩
      rw [← g7] at A7 D7 st7
      have sz8 : h0.size ≤ h7.size := E7.1
      have lt_b7 := own_lt A7.lt
      have F7_value : Fld Z h7 b7 "java/lang/Integer" "value" "I" (.int (0 : Int32)) := D7 (Or.inr (hw _ (List.mem_of_getElem? (i := 150) rfl))) (ty := .int) (by decide)
      refine OwnFin.adv (B := T7.setTop (mkF m 26 #[.val (.int iv)] [(.ref b7)])) (fun _ k => st7 _ k) ?_
      refine OwnFin.adv (B := T7.setTop (mkF m 27 #[.val (.int iv)] [(.ref b7), (.ref b7)])) (fun _ k => XS.dup X7.here hx rfl (hb hby own_d13_26) rfl rfl k) ?_
      refine OwnFin.adv (B := T7.setTop (mkF m 28 #[.val (.int iv)] [(.int iv), (.ref b7), (.ref b7)])) (fun _ k => XS.iloadN X7.here hx rfl (hb hby own_d13_27) rfl k) ?_
      obtain ⟨_, _, ⟨T9, L9, k9, n9⟩, -, X9, ⟨Lc9, hQ9, l9, y9, z9⟩, st9⟩ := X7.specialBack hx (y := (⟨"java/lang/Integer", "<init>", "(I)V"⟩ : MethodName)) rfl hown (mvT hZ (hw _ (List.mem_of_getElem? (i := 138) rfl))) (mvT hZ (hw _ (List.mem_of_getElem? (i := 139) rfl))) (mvT hZ (hw _ (List.mem_of_getElem? (i := 141) rfl))) (by decide) (backOf (W := 1) (own_intInit l Z a0 hw [] b7 iv _ h7 n0 (by omega) A7 F7_value (by omega)) hZ (hw _ (List.mem_of_getElem? (i := 141) rfl)) (hw _ (List.mem_of_getElem? (i := 96) rfl)) (by decide) (by decide)) (g := (mkF m 28 #[.val (.int iv)] [(.int iv), (.ref b7), (.ref b7)])) rfl (by rw [hml]; rfl) (Steps.refl _) (a := b7) (argsL := [(.int iv)]) (rest := [(.ref b7)]) (lenOf own_pd_x28Ix29V rfl) rfl (by show 2 * 0 + _ ≤ _; exact Nat.le_of_eq rfl) (hb hby own_d13_28) (fun _ _ => ⟨rfl, e7, (by decide : 1 + 0 ≤ _), (by decide : 1 + 0 ≤ _)⟩)
      dsimp only [Pt.U, Pt.locs, Pt.cells, Pt.slots] at X9 l9 y9 z9 st9 hQ9
      subst l9 y9 z9
      obtain ⟨rfl, N9q, K9, Fi9⟩ := hQ9
      have N9 := Fr.app N0 N9q
      have sz10 : h7.size ≤ T9.heap.size := K9.1
      refine OwnFin.adv (B := T9.setTop (mkF m 31 #[.val (.int iv)] [(.ref b7)])) (fun _ k => st9.trans k) ?_
      obtain ⟨fs, hr, hrun, hended, hW, hsame⟩ := X9.leave (v := some (.ref b7)) (fun h => by rw [Bd.returns] at h; cases h)
      refine OwnFin.leaf hP' ⟨_, _, own_retR X9 hx Bd.returns rfl rfl rfl (hb hby own_d13_31) hr, hrun, hended, _, _, rfl, ?_, ⟨_, rfl⟩, hW, hsame.mono (by decide) (by decide)⟩
      have Fv11_2 : Exa Z T9.heap b7 "java/lang/Integer" := (A7.keep K9)
      rw [show (T9.setFrames fs).heap = T9.heap from rfl]
      exact ⟨_, rfl, N9, (((Keep.refl h0 []).ext E7).trans K9 (allS (Or.inr (by omega)) all0)), Fv11_2⟩
    ·
      refine OwnFin.adv (B := T6.setTop (mkF m 13 #[.val (.int iv)] [])) (fun _ k => XS.icmpNo X6.here hx rfl (hb hby own_d13_10) rfl (flt hc10).2.2.1 k) ?_
      obtain ⟨T12, X12, e12, st12⟩ := getS2 X6 hx hZ hown (host := "") (Or.inl (hw _ (List.mem_of_getElem? (i := 100) rfl))) Via.refl e6 (own_staK SC O0) (g := (mkF m 13 #[.val (.int iv)] [])) rfl (hb hby own_d13_13)
      refine OwnFin.adv (B := T12.setTop (mkF m 16 #[.val (.int iv)] [(.ref ca)])) (fun _ k => st12 _ k) ?_
      refine OwnFin.adv (B := T12.setTop (mkF m 17 #[.val (.int iv)] [(.int iv), (.ref ca)])) (fun _ k => XS.iloadN X12.here hx rfl (hb hby own_d13_16) rfl k) ?_
      refine OwnFin.adv (B := T12.setTop (mkF m 20 #[.val (.int iv)] [(.int (128 : Int32)), (.int iv), (.ref ca)])) (fun _ k => XS.sipush X12.here hx rfl (hb hby own_d13_17) k) ?_
      refine OwnFin.adv (B := T12.setTop (mkF m 21 #[.val (.int iv)] [(.int (iv + (128 : Int32))), (.ref ca)])) (fun _ k => XS.iadd X12.here hx rfl (hb hby own_d13_20) rfl k) ?_
      obtain ⟨Ar, hsz, hz⟩ := BX.ext O0.2
      have hin : ¬ ((iv + (128 : Int32)) < 0 ∨ cl.slots.size ≤ ((iv + (128 : Int32))).toNatClampNeg) := inb_of hsz (own_inbox hc3 hc10)
      obtain ⟨bx, hbx, Ebx, Fbx⟩ := BX.2.2.2 _ hin
      refine OwnFin.adv (B := T12.setTop (mkF m 22 #[.val (.int iv)] [(.ref bx)])) (fun _ k => X12.aaload hx (j := (iv + (128 : Int32))) (v := .ref bx) (by rw [e12]; exact Ar.1) (State.isArrayOf_alike hZ.alike Ar.2.1) rfl Ar.2.2 hin hbx (g := (mkF m 21 #[.val (.int iv)] [(.int (iv + (128 : Int32))), (.ref ca)])) rfl rfl (hb hby own_d13_21) _ k) ?_
      obtain ⟨fs, hr, hrun, hended, hW, hsame⟩ := X12.leave (v := some (.ref bx)) (fun h => by rw [Bd.returns] at h; cases h)
      refine OwnFin.leaf hP' ⟨_, _, own_retR X12 hx Bd.returns rfl rfl rfl (hb hby own_d13_22) hr, hrun, hended, _, _, rfl, ?_, ⟨_, rfl⟩, hW, hsame.mono (by decide) (by decide)⟩
      rw [show (T12.setFrames fs).heap = h0 from e12]
      exact ⟨_, rfl, N0, (Keep.refl h0 []), (Ebx.ext O0.2)⟩
theorem own_i8 (x : Int32) : x.toInt8.toInt32.toInt8.toInt32 = x.toInt8.toInt32 := by simp

theorem own_d5_0 : decode jdk_43_method_3_code 0 = .ok (.iload_n 0, 1) := by decide +kernel
theorem own_d5_1 : decode jdk_43_method_3_code 1 = .ok (.sipush 255, 3) := by decide +kernel
theorem own_d5_4 : decode jdk_43_method_3_code 4 = .ok (.if_icmp .gt 7, 3) := by decide +kernel
theorem own_d5_7 : decode jdk_43_method_3_code 7 = .ok (.iconst 1, 1) := by decide +kernel
theorem own_d5_8 : decode jdk_43_method_3_code 8 = .ok (.goto 4, 3) := by decide +kernel
theorem own_d5_12 : decode jdk_43_method_3_code 12 = .ok (.ireturn, 1) := by decide +kernel
theorem own_ef_canEnc (m : MethodId) (x0 : Int32) : entryFrame m #[(.int x0)] 1 = mkF m 0 #[.val (.int x0)] [] := by first | (simp [entryFrame, mkF, argsToLocals, Value.category]; done) | rfl
theorem own_pn_java_lang_StringLatin1 : plainName "java/lang/StringLatin1" = true := by first | (simp [plainName, overriddenIn]; done) | decide +kernel
def own_Q_canEnc (Z : State) (cc : Int32) (h0 : Heap) (n0 : Nat) (v : Option Value) (h : Heap) (L : List Loc) : Prop := v = some (.int (1 : Int32)) ∧ Fr n0 L ∧ h = h0
set_option maxRecDepth 65536 in
set_option maxHeartbeats 40000000 in
theorem own_canEnc (l : Launch) (Z : State) (a0 : Array Value) (hw : ∀ d ∈ tables_1, d.before a0 Z = true) (ws : List Jvm.Cond) (cc : Int32) (h0 : Heap) (n0 : Nat) (Z0 : n0 ≤ h0.size) (hcc : ¬ (255 : Int32) < cc) :
    MetFree l (⟨"java/lang/StringLatin1", "canEncode", "(C)Z"⟩ : MethodName) (head1 (Jvm.Cond.code (⟨"java/lang/StringLatin1", "canEncode", "(C)Z"⟩ : MethodName) jdk_43_method_3_code 1 (some .boolean) :: ws) ({ frames := 0, cells := 0, slots := 0, locals := 0 } : Room)) (fun A0 U0 => A0 = #[(.int cc)] ∧ Z.Warmed39 U0.vm ∧ U0.heap = h0) (fun _ _ _ _ _ => True) (fun _ U0 o0 U1 => ∃ v0 L0, o0 = .returned v0 ∧ own_Q_canEnc Z cc h0 n0 v0 U1.heap L0 ∧ FrameEnd U0 o0 U1 L0 ({ frames := 0, cells := 0, slots := 0, locals := 0 } : Room).cells ({ frames := 0, cells := 0, slots := 0, locals := 0 } : Room).slots) := by
  refine MetFree.of_bodySF (plainFor_of_name own_pn_java_lang_StringLatin1) hisR ?_
  intro p e s m args below meth c s₁ Bd hml0 hP hK
  obtain ⟨rfl, hZ, hh⟩ := hP
  have hx := Bd.exec
  have hby := Bd.bytes
  have hml : c.maxLocals = 1 := hml0
  have hown : s.vm.findClass "java/lang/StringLatin1" = some m.cls := findClass_of_methodNamed Bd.named
  have hnm := (name_of_methodNamed Bd.named Bd.method).1
  have X0 : Stand p l e ({ frames := 0, cells := 0, slots := 0, locals := 0 } : Room) s m #[(.int cc)] below meth c s₁ [] 0 0 := Stand.of_body Bd
  have e0 : s₁.heap = h0 := by rw [← hh, Bd.state]; rfl
  have N0 := Fr.nil n0
  refine OwnFin.entry (own_ef_canEnc m cc) (fun P' hP' => ?_)
  refine OwnFin.adv (B := s₁.setTop (mkF m 1 #[.val (.int cc)] [(.int cc)])) (fun _ k => XS.iloadN X0.here hx rfl (hb hby own_d5_0) rfl k) ?_
  refine OwnFin.adv (B := s₁.setTop (mkF m 4 #[.val (.int cc)] [(.int (255 : Int32)), (.int cc)])) (fun _ k => XS.sipush X0.here hx rfl (hb hby own_d5_1) k) ?_
  have hc4_3 : ¬ ((255 : Int32) < cc) := hcc
  refine OwnFin.adv (B := s₁.setTop (mkF m 7 #[.val (.int cc)] [])) (fun _ k => XS.icmpNo X0.here hx rfl (hb hby own_d5_4) rfl (flt hc4_3).2.2.1 k) ?_
  refine OwnFin.adv (B := s₁.setTop (mkF m 8 #[.val (.int cc)] [(.int (1 : Int32))])) (fun _ k => XS.iconst X0.here hx rfl (hb hby own_d5_7) k) ?_
  refine OwnFin.adv (B := s₁.setTop (mkF m 12 #[.val (.int cc)] [(.int (1 : Int32))])) (fun _ k => XS.goto X0.here hx rfl (pc0 := 8) (pc' := 12) rfl (hb hby own_d5_8) (by decide) (by decide) k) ?_
  obtain ⟨fs, hr, hrun, hended, hW, hsame⟩ := X0.leave (v := some (.int (1 : Int32))) (fun h => by rw [Bd.returns] at h; cases h)
  refine OwnFin.leaf hP' ⟨_, _, retN X0 hx (t := .boolean) Bd.returns (by simp) (hb hby own_d5_12) hr, hrun, hended, _, _, rfl, ?_, ⟨_, rfl⟩, hW, hsame.mono (by decide) (by decide)⟩
  exact ⟨rfl, N0, e0⟩
theorem own_d6_0 : decode jdk_43_method_46_code 0 = .ok (.iconst 1, 1) := by decide +kernel
theorem own_d6_1 : decode jdk_43_method_46_code 1 = .ok (.newarray .byte, 2) := by decide +kernel
theorem own_d6_3 : decode jdk_43_method_46_code 3 = .ok (.dup, 1) := by decide +kernel
theorem own_d6_4 : decode jdk_43_method_46_code 4 = .ok (.iconst 0, 1) := by decide +kernel
theorem own_d6_5 : decode jdk_43_method_46_code 5 = .ok (.iload_n 0, 1) := by decide +kernel
theorem own_d6_6 : decode jdk_43_method_46_code 6 = .ok (.i2b, 1) := by decide +kernel
theorem own_d6_7 : decode jdk_43_method_46_code 7 = .ok (.bastore, 1) := by decide +kernel
theorem own_d6_8 : decode jdk_43_method_46_code 8 = .ok (.areturn, 1) := by decide +kernel
theorem own_ef_toB (m : MethodId) (x0 : Int32) : entryFrame m #[(.int x0)] 1 = mkF m 0 #[.val (.int x0)] [] := by first | (simp [entryFrame, mkF, argsToLocals, Value.category]; done) | rfl
def own_Q_toB (Z : State) (cc : Int32) (h0 : Heap) (n0 : Nat) (v : Option Value) (h : Heap) (L : List Loc) : Prop := ∃ (t : Addr) (kb : ClassId), v = some (.ref t) ∧ Fr n0 L ∧ Keep h0 h [] ∧ h0.size ≤ t ∧ Arv Z h t kb .byte (1 : Int32) [(.int cc.toInt8.toInt32)] (.int (0 : Int32))
set_option maxRecDepth 65536 in
set_option maxHeartbeats 40000000 in
theorem own_toB (l : Launch) (Z : State) (a0 : Array Value) (hw : ∀ d ∈ tables_1, d.before a0 Z = true) (ws : List Jvm.Cond) (cc : Int32) (h0 : Heap) (n0 : Nat) (Z0 : n0 ≤ h0.size) :
    MetFree l (⟨"java/lang/StringLatin1", "toBytes", "(C)[B"⟩ : MethodName) (head1 (Jvm.Cond.code (⟨"java/lang/StringLatin1", "toBytes", "(C)[B"⟩ : MethodName) jdk_43_method_46_code 1 (some (.array .byte)) :: ws) ({ frames := 0, cells := 1, slots := 1, locals := 0 } : Room)) (fun A0 U0 => A0 = #[(.int cc)] ∧ Z.Warmed39 U0.vm ∧ U0.heap = h0) (fun _ _ _ _ _ => True) (fun _ U0 o0 U1 => ∃ v0 L0, o0 = .returned v0 ∧ own_Q_toB Z cc h0 n0 v0 U1.heap L0 ∧ FrameEnd U0 o0 U1 L0 ({ frames := 0, cells := 1, slots := 1, locals := 0 } : Room).cells ({ frames := 0, cells := 1, slots := 1, locals := 0 } : Room).slots) := by
  refine MetFree.of_bodySF (plainFor_of_name own_pn_java_lang_StringLatin1) hisR ?_
  intro p e s m args below meth c s₁ Bd hml0 hP hK
  obtain ⟨rfl, hZ, hh⟩ := hP
  have hx := Bd.exec
  have hby := Bd.bytes
  have hml : c.maxLocals = 1 := hml0
  have hown : s.vm.findClass "java/lang/StringLatin1" = some m.cls := findClass_of_methodNamed Bd.named
  have hnm := (name_of_methodNamed Bd.named Bd.method).1
  have X0 : Stand p l e ({ frames := 0, cells := 1, slots := 1, locals := 0 } : Room) s m #[(.int cc)] below meth c s₁ [] 0 0 := Stand.of_body Bd
  have e0 : s₁.heap = h0 := by rw [← hh, Bd.state]; rfl
  have N0 := Fr.nil n0
  refine OwnFin.entry (own_ef_toB m cc) (fun P' hP' => ?_)
  refine OwnFin.adv (B := s₁.setTop (mkF m 1 #[.val (.int cc)] [(.int (1 : Int32))])) (fun _ k => XS.iconst X0.here hx rfl (hb hby own_d6_0) k) ?_
  obtain ⟨T1, h1, k1, X1, e1, E1, A1, st1⟩ := newP X0 hx hZ (hw _ (List.mem_of_getElem? (i := 35) rfl)) e0 (g := (mkF m 1 #[.val (.int cc)] [(.int (1 : Int32))])) rfl (hb hby own_d6_1) rfl (by decide) (cap := 1) (by decide) (by decide) (by decide) (by decide)
  obtain ⟨b1, g1⟩ : ∃ z, z = h0.size := ⟨_, rfl⟩
  rw [← g1] at A1 st1
  have sz2 : h0.size ≤ h1.size := E1.1
  have lt_b1 := own_lt A1.lt
  have V1 : Arv Z h1 b1 k1 .byte (1 : Int32) [(.int (0 : Int32))] (.int (0 : Int32)) := (Arv.new A1 (by decide)).pad (pad_rep [] (.int (0 : Int32)) 1)
  refine OwnFin.adv (B := T1.setTop (mkF m 3 #[.val (.int cc)] [(.ref b1)])) (fun _ k => st1 _ k) ?_
  refine OwnFin.adv (B := T1.setTop (mkF m 4 #[.val (.int cc)] [(.ref b1), (.ref b1)])) (fun _ k => XS.dup X1.here hx rfl (hb hby own_d6_3) rfl rfl k) ?_
  refine OwnFin.adv (B := T1.setTop (mkF m 5 #[.val (.int cc)] [(.int (0 : Int32)), (.ref b1), (.ref b1)])) (fun _ k => XS.iconst X1.here hx rfl (hb hby own_d6_4) k) ?_
  refine OwnFin.adv (B := T1.setTop (mkF m 6 #[.val (.int cc)] [(.int cc), (.int (0 : Int32)), (.ref b1), (.ref b1)])) (fun _ k => XS.iloadN X1.here hx rfl (hb hby own_d6_5) rfl k) ?_
  refine OwnFin.adv (B := T1.setTop (mkF m 7 #[.val (.int cc)] [(.int (cc.toInt8.toInt32)), (.int (0 : Int32)), (.ref b1), (.ref b1)])) (fun _ k => XS.i2b X1.here hx rfl (hb hby own_d6_6) rfl k) ?_
  obtain ⟨cl3, Ar3, ck3, S3, M3, H3, G3⟩ := id V1
  have hin3 : ¬ ((0 : Int32) < 0 ∨ cl3.slots.size ≤ ((0 : Int32)).toNatClampNeg) := inb_of S3 ⟨by decide, by decide⟩
  obtain ⟨T3, h3, X3, e3, W3, st3⟩ := stB X1 hx hZ e1 Ar3 (j := (0 : Int32)) hin3 (g := (mkF m 7 #[.val (.int cc)] [(.int (cc.toInt8.toInt32)), (.int (0 : Int32)), (.ref b1), (.ref b1)])) rfl rfl (hb hby own_d6_7)
  have V3 : Arv Z h3 b1 k1 .byte (1 : Int32) [(.int (cc.toInt8.toInt32).toInt8.toInt32)] (.int (0 : Int32)) := Arv.set Ar3 ck3 S3 M3 H3 G3 (fits_nar_byte _) W3 0 rfl (Nat.le_of_ble_eq_true rfl)
  have V3s : Arv Z h3 b1 k1 .byte (1 : Int32) [(.int cc.toInt8.toInt32)] (.int (0 : Int32)) := by
    have q := V3
    rw [show ((.int (cc.toInt8.toInt32).toInt8.toInt32) : Value) = (.int cc.toInt8.toInt32) from congrArg Value.int (own_i8 _)] at q
    exact q
  have sz4 : h1.size ≤ h3.size := Nat.le_of_eq W3.size.symm
  have N3 := Fr.snoc X3 N0 (by omega : n0 ≤ b1)
  refine OwnFin.adv (B := T3.setTop (mkF m 8 #[.val (.int cc)] [(.ref b1)])) (fun _ k => st3 _ k) ?_
  obtain ⟨fs, hr, hrun, hended, hW, hsame⟩ := X3.leave (v := some (.ref b1)) (fun h => by rw [Bd.returns] at h; cases h)
  refine OwnFin.leaf hP' ⟨_, _, own_retR X3 hx Bd.returns rfl rfl rfl (hb hby own_d6_8) hr, hrun, hended, _, _, rfl, ?_, ⟨_, rfl⟩, hW, hsame.mono (by decide) (by decide)⟩
  rw [show (T3.setFrames fs).heap = h3 from e3]
  exact ⟨_, _, rfl, N3, (((Keep.refl h0 []).ext E1).wr W3 (Or.inr (by omega))), by omega, V3s⟩
theorem own_d7_0 : decode jdk_42_method_151_code 0 = .ok (.aload_n 0, 1) := by decide +kernel
theorem own_d7_1 : decode jdk_42_method_151_code 1 = .ok (.invokespecial 1, 3) := by decide +kernel
theorem own_d7_4 : decode jdk_42_method_151_code 4 = .ok (.aload_n 0, 1) := by decide +kernel
theorem own_d7_5 : decode jdk_42_method_151_code 5 = .ok (.aload_n 1, 1) := by decide +kernel
theorem own_d7_6 : decode jdk_42_method_151_code 6 = .ok (.putfield 9, 3) := by decide +kernel
theorem own_d7_9 : decode jdk_42_method_151_code 9 = .ok (.aload_n 0, 1) := by decide +kernel
theorem own_d7_10 : decode jdk_42_method_151_code 10 = .ok (.iload_n 2, 1) := by decide +kernel
theorem own_d7_11 : decode jdk_42_method_151_code 11 = .ok (.putfield 15, 3) := by decide +kernel
theorem own_d7_14 : decode jdk_42_method_151_code 14 = .ok (.return_, 1) := by decide +kernel
theorem own_ef_strBB (m : MethodId) (x0 : Addr) (x1 : Addr) (x2 : Int32) : entryFrame m #[(.ref x0), (.ref x1), (.int x2)] 3 = mkF m 0 #[.val (.ref x0), .val (.ref x1), .val (.int x2)] [] := by first | (simp [entryFrame, mkF, argsToLocals, Value.category]; done) | rfl
theorem own_pn_java_lang_String : plainName "java/lang/String" = true := by first | (simp [plainName, overriddenIn]; done) | decide +kernel
def own_Q_strBB (Z : State) (ob tb : Addr) (u0 u1 : Value) (h0 : Heap) (n0 : Nat) (v : Option Value) (h : Heap) (L : List Loc) : Prop := v = none ∧ Fr n0 L ∧ Keep h0 h [ob] ∧ Fld Z h ob "java/lang/String" "value" "[B" (.ref tb) ∧ Fld Z h ob "java/lang/String" "coder" "B" (.int (0 : Int32))
set_option maxRecDepth 65536 in
set_option maxHeartbeats 40000000 in
theorem own_strBB (l : Launch) (Z : State) (a0 : Array Value) (hw : ∀ d ∈ tables_1, d.before a0 Z = true) (ws : List Jvm.Cond) (ob tb : Addr) (u0 u1 : Value) (h0 : Heap) (n0 : Nat) (Z0 : n0 ≤ h0.size) (E : Exa Z h0 ob "java/lang/String") (Fv : Fld Z h0 ob "java/lang/String" "value" "[B" u0) (Fc : Fld Z h0 ob "java/lang/String" "coder" "B" u1) (g_ob : n0 ≤ ob) :
    MetFree l (⟨"java/lang/String", "<init>", "([BB)V"⟩ : MethodName) (head1 (Jvm.Cond.code (⟨"java/lang/String", "<init>", "([BB)V"⟩ : MethodName) jdk_42_method_151_code 3 none :: ws) ({ frames := 1, cells := 0, slots := 0, locals := 12 } : Room)) (fun A0 U0 => A0 = #[(.ref ob), (.ref tb), (.int (0 : Int32))] ∧ Z.Warmed39 U0.vm ∧ U0.heap = h0) (fun _ _ _ _ _ => True) (fun _ U0 o0 U1 => ∃ v0 L0, o0 = .returned v0 ∧ own_Q_strBB Z ob tb u0 u1 h0 n0 v0 U1.heap L0 ∧ FrameEnd U0 o0 U1 L0 ({ frames := 1, cells := 0, slots := 0, locals := 12 } : Room).cells ({ frames := 1, cells := 0, slots := 0, locals := 12 } : Room).slots) := by
  refine MetFree.of_bodySF (plainFor_of_name own_pn_java_lang_String) hisR ?_
  intro p e s m args below meth c s₁ Bd hml0 hP hK
  obtain ⟨rfl, hZ, hh⟩ := hP
  have hx := Bd.exec
  have hby := Bd.bytes
  have hml : c.maxLocals = 3 := hml0
  have hown : s.vm.findClass "java/lang/String" = some m.cls := findClass_of_methodNamed Bd.named
  have hnm := (name_of_methodNamed Bd.named Bd.method).1
  have X0 : Stand p l e ({ frames := 1, cells := 0, slots := 0, locals := 12 } : Room) s m #[(.ref ob), (.ref tb), (.int (0 : Int32))] below meth c s₁ [] 0 0 := Stand.of_body Bd
  have e0 : s₁.heap = h0 := by rw [← hh, Bd.state]; rfl
  have N0 := Fr.nil n0
  refine OwnFin.entry (own_ef_strBB m ob tb (0 : Int32)) (fun P' hP' => ?_)
  refine OwnFin.adv (B := s₁.setTop (mkF m 1 #[.val (.ref ob), .val (.ref tb), .val (.int (0 : Int32))] [(.ref ob)])) (fun _ k => XS.aloadN X0.here hx rfl (hb hby own_d7_0) rfl rfl k) ?_
  obtain ⟨T1, X1, e1, st1⟩ := initO X0 hx hZ hown (hw _ (List.mem_of_getElem? (i := 31) rfl)) (hw _ (List.mem_of_getElem? (i := 32) rfl)) (hw _ (List.mem_of_getElem? (i := 33) rfl)) e0 (g := (mkF m 1 #[.val (.ref ob), .val (.ref tb), .val (.int (0 : Int32))] [(.ref ob)])) rfl (by rw [hml]; rfl) rfl (hb hby own_d7_1) (by decide) (W := 0) (by show 2 * 0 + _ ≤ _; exact Nat.le_of_eq rfl) (by decide)
  refine OwnFin.adv (B := T1.setTop (mkF m 4 #[.val (.ref ob), .val (.ref tb), .val (.int (0 : Int32))] [])) (fun _ k => st1 _ k) ?_
  refine OwnFin.adv (B := T1.setTop (mkF m 5 #[.val (.ref ob), .val (.ref tb), .val (.int (0 : Int32))] [(.ref ob)])) (fun _ k => XS.aloadN X1.here hx rfl (hb hby own_d7_4) rfl rfl k) ?_
  refine OwnFin.adv (B := T1.setTop (mkF m 6 #[.val (.ref ob), .val (.ref tb), .val (.int (0 : Int32))] [(.ref tb), (.ref ob)])) (fun _ k => XS.aloadN X1.here hx rfl (hb hby own_d7_5) rfl rfl k) ?_
  obtain ⟨T2, h2, X2, e2, W2, st2⟩ := putF X1 hx hZ hown (host := "") (Or.inl (hw _ (List.mem_of_getElem? (i := 40) rfl))) Via.refl e1 Fv E (Or.inr ⟨(hw _ (List.mem_of_getElem? (i := 36) rfl)), rfl, hnm⟩) (hw _ (List.mem_of_getElem? (i := 21) rfl)) (ty := (.array .byte)) (by decide) rfl rfl (g := (mkF m 6 #[.val (.ref ob), .val (.ref tb), .val (.int (0 : Int32))] [(.ref tb), (.ref ob)])) rfl rfl (hb hby own_d7_6)
  have Fw2 : Fld Z h2 ob "java/lang/String" "value" "[B" (.ref tb) := Fv.same W2
  have sz3 : h0.size ≤ h2.size := Nat.le_of_eq W2.size.symm
  have N2 := Fr.snoc X2 N0 (by omega : n0 ≤ ob)
  refine OwnFin.adv (B := T2.setTop (mkF m 9 #[.val (.ref ob), .val (.ref tb), .val (.int (0 : Int32))] [])) (fun _ k => st2 _ k) ?_
  refine OwnFin.adv (B := T2.setTop (mkF m 10 #[.val (.ref ob), .val (.ref tb), .val (.int (0 : Int32))] [(.ref ob)])) (fun _ k => XS.aloadN X2.here hx rfl (hb hby own_d7_9) rfl rfl k) ?_
  refine OwnFin.adv (B := T2.setTop (mkF m 11 #[.val (.ref ob), .val (.ref tb), .val (.int (0 : Int32))] [(.int (0 : Int32)), (.ref ob)])) (fun _ k => XS.iloadN X2.here hx rfl (hb hby own_d7_10) rfl k) ?_
  have Fv4_1 : Exa Z h2 ob "java/lang/String" := (E.wr W2)
  have Fv5_1 : Fld Z h2 ob "java/lang/String" "coder" "B" u1 := (Fc.other W2 (Or.inr (slot_ne (Or.inr (hw _ (List.mem_of_getElem? (i := 37) rfl))) (Or.inr (hw _ (List.mem_of_getElem? (i := 36) rfl))) (by decide) (t := .byte) (t' := (.array .byte)) (by decide) (by decide))))
  obtain ⟨T6, h6, X6, e6, W6, st6⟩ := putFN X2 hx hZ hown (hw _ (List.mem_of_getElem? (i := 41) rfl)) Via.refl e2 Fv5_1 Fv4_1 (Or.inr ⟨(hw _ (List.mem_of_getElem? (i := 37) rfl)), rfl, hnm⟩) (hw _ (List.mem_of_getElem? (i := 21) rfl)) (ty := .byte) (v' := .int (nar .byte (0 : Int32))) (by decide) rfl (fits_nar_byte _) (g := (mkF m 11 #[.val (.ref ob), .val (.ref tb), .val (.int (0 : Int32))] [(.int (0 : Int32)), (.ref ob)])) rfl rfl (hb hby own_d7_11)
  have Fw6 : Fld Z h6 ob "java/lang/String" "coder" "B" (.int (0 : Int32)) := Fv5_1.same W6
  have sz7 : h2.size ≤ h6.size := Nat.le_of_eq W6.size.symm
  have N6 := Fr.snoc X6 N2 (by omega : n0 ≤ ob)
  refine OwnFin.adv (B := T6.setTop (mkF m 14 #[.val (.ref ob), .val (.ref tb), .val (.int (0 : Int32))] [])) (fun _ k => st6 _ k) ?_
  obtain ⟨fs, hr, hrun, hended, hW, hsame⟩ := X6.leave (v := none) (fun _ => rfl)
  refine OwnFin.leaf hP' ⟨_, _, X6.returnOut hx Bd.returns (hb hby own_d7_14) hr, hrun, hended, _, _, rfl, ?_, ⟨_, rfl⟩, hW, hsame.mono (by decide) (by decide)⟩
  have Fv8_2 : Fld Z h6 ob "java/lang/String" "value" "[B" (.ref tb) := (Fw2.other W6 (Or.inr (slot_ne (Or.inr (hw _ (List.mem_of_getElem? (i := 36) rfl))) (Or.inr (hw _ (List.mem_of_getElem? (i := 37) rfl))) (by decide) (t := (.array .byte)) (t' := .byte) (by decide) (by decide))))
  rw [show (T6.setFrames fs).heap = h6 from e6]
  exact ⟨rfl, N6, (((Keep.refl h0 [ob]).wr W2 (Or.inl (List.mem_of_getElem? (i := 0) rfl))).wr W6 (Or.inl (List.mem_of_getElem? (i := 0) rfl))), Fv8_2, Fw6⟩
theorem own_d4_0 : decode jdk_42_method_139_code 0 = .ok (.getstatic 38, 3) := by decide +kernel
theorem own_d4_3 : decode jdk_42_method_139_code 3 = .ok (.ifCond .eq 23, 3) := by decide +kernel
theorem own_d4_6 : decode jdk_42_method_139_code 6 = .ok (.iload_n 0, 1) := by decide +kernel
theorem own_pd_x28Cx29Z : parseMethodDescriptor "(C)Z" = some ⟨[.char], some .boolean⟩ := by decide +kernel
theorem own_d4_7 : decode jdk_42_method_139_code 7 = .ok (.invokestatic 1015, 3) := by decide +kernel
theorem own_d4_10 : decode jdk_42_method_139_code 10 = .ok (.ifCond .eq 16, 3) := by decide +kernel
theorem own_d4_13 : decode jdk_42_method_139_code 13 = .ok (.new 10, 3) := by decide +kernel
theorem own_d4_16 : decode jdk_42_method_139_code 16 = .ok (.dup, 1) := by decide +kernel
theorem own_d4_17 : decode jdk_42_method_139_code 17 = .ok (.iload_n 0, 1) := by decide +kernel
theorem own_pd_x28Cx29x5bB : parseMethodDescriptor "(C)[B" = some ⟨[.char], some (.array .byte)⟩ := by decide +kernel
theorem own_d4_18 : decode jdk_42_method_139_code 18 = .ok (.invokestatic 1018, 3) := by decide +kernel
theorem own_d4_21 : decode jdk_42_method_139_code 21 = .ok (.iconst 0, 1) := by decide +kernel
theorem own_pd_x28x5bBBx29V : parseMethodDescriptor "([BB)V" = some ⟨[(.array .byte), .byte], none⟩ := by decide +kernel
theorem own_d4_22 : decode jdk_42_method_139_code 22 = .ok (.invokespecial 209, 3) := by decide +kernel
theorem own_d4_25 : decode jdk_42_method_139_code 25 = .ok (.areturn, 1) := by decide +kernel
theorem own_ef_strVal (m : MethodId) (x0 : Int32) : entryFrame m #[(.int x0)] 1 = mkF m 0 #[.val (.int x0)] [] := by first | (simp [entryFrame, mkF, argsToLocals, Value.category]; done) | rfl
def own_Q_strVal (Z : State) (cc zc : Int32) (h0 : Heap) (n0 : Nat) (v : Option Value) (h : Heap) (L : List Loc) : Prop := ∃ (r t : Addr) (kb : ClassId), v = some (.ref r) ∧ Fr n0 L ∧ Keep h0 h [] ∧ h0.size ≤ r ∧ h0.size ≤ t ∧ Exa Z h r "java/lang/String" ∧ Fld Z h r "java/lang/String" "coder" "B" (.int (0 : Int32)) ∧ Fld Z h r "java/lang/String" "value" "[B" (.ref t) ∧ Arv Z h t kb .byte (1 : Int32) [(.int cc.toInt8.toInt32)] (.int (0 : Int32))
set_option maxRecDepth 65536 in
set_option maxHeartbeats 40000000 in
theorem own_strVal (l : Launch) (Z : State) (a0 : Array Value) (hw : ∀ d ∈ tables_1, d.before a0 Z = true) (ws : List Jvm.Cond) (cc zc : Int32) (h0 : Heap) (n0 : Nat) (Z0 : n0 ≤ h0.size) (O0 : Old Z n0 h0) (SCS : Sta Z Z.heap "java/lang/String" "COMPACT_STRINGS" "Z" (.int zc)) (hzc : ¬ zc = 0) (hcc : ¬ (255 : Int32) < cc) :
    MetFree l (⟨"java/lang/String", "valueOf", "(C)Ljava/lang/String;"⟩ : MethodName) (head1 (Jvm.Cond.code (⟨"java/lang/String", "valueOf", "(C)Ljava/lang/String;"⟩ : MethodName) jdk_42_method_139_code 1 (some (.object "java/lang/String")) :: ws) ({ frames := 2, cells := 2, slots := 5, locals := 27 } : Room)) (fun A0 U0 => A0 = #[(.int cc)] ∧ Z.Warmed39 U0.vm ∧ U0.heap = h0) (fun _ _ _ _ _ => True) (fun _ U0 o0 U1 => ∃ v0 L0, o0 = .returned v0 ∧ own_Q_strVal Z cc zc h0 n0 v0 U1.heap L0 ∧ FrameEnd U0 o0 U1 L0 ({ frames := 2, cells := 2, slots := 5, locals := 27 } : Room).cells ({ frames := 2, cells := 2, slots := 5, locals := 27 } : Room).slots) := by
  refine MetFree.of_bodySF (plainFor_of_name own_pn_java_lang_String) hisR ?_
  intro p e s m args below meth c s₁ Bd hml0 hP hK
  obtain ⟨rfl, hZ, hh⟩ := hP
  have hx := Bd.exec
  have hby := Bd.bytes
  have hml : c.maxLocals = 1 := hml0
  have hown : s.vm.findClass "java/lang/String" = some m.cls := findClass_of_methodNamed Bd.named
  have hnm := (name_of_methodNamed Bd.named Bd.method).1
  have X0 : Stand p l e ({ frames := 2, cells := 2, slots := 5, locals := 27 } : Room) s m #[(.int cc)] below meth c s₁ [] 0 0 := Stand.of_body Bd
  have e0 : s₁.heap = h0 := by rw [← hh, Bd.state]; rfl
  have N0 := Fr.nil n0
  refine OwnFin.entry (own_ef_strVal m cc) (fun P' hP' => ?_)
  obtain ⟨T1, X1, e1, st1⟩ := getS2 X0 hx hZ hown (host := "") (Or.inl (hw _ (List.mem_of_getElem? (i := 48) rfl))) Via.refl e0 (own_staK SCS O0) (g := (mkF m 0 #[.val (.int cc)] [])) rfl (hb hby own_d4_0)
  refine OwnFin.adv (B := T1.setTop (mkF m 3 #[.val (.int cc)] [(.int zc)])) (fun _ k => st1 _ k) ?_
  have hc3_2 : ¬ (zc = (0 : Int32)) := hzc
  refine OwnFin.adv (B := T1.setTop (mkF m 6 #[.val (.int cc)] [])) (fun _ k => XS.ifNo X1.here hx rfl (hb hby own_d4_3) rfl ((if0 _ _).trans (feq hc3_2).1) k) ?_
  refine OwnFin.adv (B := T1.setTop (mkF m 7 #[.val (.int cc)] [(.int cc)])) (fun _ k => XS.iloadN X1.here hx rfl (hb hby own_d4_6) rfl k) ?_
  obtain ⟨_, _, ⟨T2, L2, k2, n2⟩, -, X2, ⟨Lc2, hQ2, l2, y2, z2⟩, st2⟩ := Jvm.LawKit.callS X1 hx (y := (⟨"java/lang/StringLatin1", "canEncode", "(C)Z"⟩ : MethodName)) hown (mvT hZ (hw _ (List.mem_of_getElem? (i := 49) rfl))) (mvT hZ (hw _ (List.mem_of_getElem? (i := 50) rfl))) (mvT hZ (hw _ (List.mem_of_getElem? (i := 51) rfl))) (mvT hZ (hw _ (List.mem_of_getElem? (i := 52) rfl))) (by decide) (backOf (W := 0) (own_canEnc l Z a0 hw [] cc h0 n0 (by omega) hcc) hZ (hw _ (List.mem_of_getElem? (i := 52) rfl)) (hw _ (List.mem_of_getElem? (i := 51) rfl)) (by decide) (by decide)) (g := (mkF m 7 #[.val (.int cc)] [(.int cc)])) rfl (by rw [hml]; rfl) (argsL := [(.int cc)]) (rest := []) (lenOf own_pd_x28Cx29Z rfl) rfl (by show 2 * 0 + _ ≤ _; exact Nat.le_of_eq rfl) (hb hby own_d4_7) (fun _ _ => ⟨rfl, e1, (by decide : 0 + 0 ≤ _), (by decide : 0 + 0 ≤ _)⟩)
  dsimp only [Pt.U, Pt.locs, Pt.cells, Pt.slots] at X2 l2 y2 z2 st2 hQ2
  subst l2 y2 z2
  obtain ⟨rfl, N2q, eh2⟩ := hQ2
  have N2 := Fr.app N0 N2q
  refine OwnFin.adv (B := T2.setTop (mkF m 10 #[.val (.int cc)] [(.int (1 : Int32))])) (fun _ k => st2 _ k) ?_
  have hc10_5 : ¬ ((1 : Int32) = (0 : Int32)) := by decide
  refine OwnFin.adv (B := T2.setTop (mkF m 13 #[.val (.int cc)] [])) (fun _ k => XS.ifNo X2.here hx rfl (hb hby own_d4_10) rfl ((if0 _ _).trans (feq hc10_5).1) k) ?_
  obtain ⟨T3, h3, X3, e3, E3, A3, D3, -, st3⟩ := newO X2 hx hZ hown (hw _ (List.mem_of_getElem? (i := 53) rfl)) (hw _ (List.mem_of_getElem? (i := 21) rfl)) (hw _ (List.mem_of_getElem? (i := 22) rfl)) eh2 (g := (mkF m 13 #[.val (.int cc)] [])) rfl (hb hby own_d4_13) (by decide) (by decide)
  obtain ⟨b3, g3⟩ : ∃ z, z = h0.size := ⟨_, rfl⟩
  rw [← g3] at A3 D3 st3
  have sz4 : h0.size ≤ h3.size := E3.1
  have lt_b3 := own_lt A3.lt
  have F3_value : Fld Z h3 b3 "java/lang/String" "value" "[B" .null := D3 (Or.inr (hw _ (List.mem_of_getElem? (i := 36) rfl))) (ty := (.array .byte)) (by decide)
  have F3_coder : Fld Z h3 b3 "java/lang/String" "coder" "B" (.int (0 : Int32)) := D3 (Or.inr (hw _ (List.mem_of_getElem? (i := 37) rfl))) (ty := .byte) (by decide)
  refine OwnFin.adv (B := T3.setTop (mkF m 16 #[.val (.int cc)] [(.ref b3)])) (fun _ k => st3 _ k) ?_
  refine OwnFin.adv (B := T3.setTop (mkF m 17 #[.val (.int cc)] [(.ref b3), (.ref b3)])) (fun _ k => XS.dup X3.here hx rfl (hb hby own_d4_16) rfl rfl k) ?_
  refine OwnFin.adv (B := T3.setTop (mkF m 18 #[.val (.int cc)] [(.int cc), (.ref b3), (.ref b3)])) (fun _ k => XS.iloadN X3.here hx rfl (hb hby own_d4_17) rfl k) ?_
  obtain ⟨_, _, ⟨T5, L5, k5, n5⟩, -, X5, ⟨Lc5, hQ5, l5, y5, z5⟩, st5⟩ := Jvm.LawKit.callS X3 hx (y := (⟨"java/lang/StringLatin1", "toBytes", "(C)[B"⟩ : MethodName)) hown (mvT hZ (hw _ (List.mem_of_getElem? (i := 54) rfl))) (mvT hZ (hw _ (List.mem_of_getElem? (i := 55) rfl))) (mvT hZ (hw _ (List.mem_of_getElem? (i := 51) rfl))) (mvT hZ (hw _ (List.mem_of_getElem? (i := 56) rfl))) (by decide) (backOf (W := 2) (own_toB l Z a0 hw [] cc h3 n0 (by omega)) hZ (hw _ (List.mem_of_getElem? (i := 56) rfl)) (hw _ (List.mem_of_getElem? (i := 51) rfl)) (by decide) (by decide)) (g := (mkF m 18 #[.val (.int cc)] [(.int cc), (.ref b3), (.ref b3)])) rfl (by rw [hml]; rfl) (argsL := [(.int cc)]) (rest := [(.ref b3), (.ref b3)]) (lenOf own_pd_x28Cx29x5bB rfl) rfl (by show 2 * 0 + _ ≤ _; exact Nat.le_of_eq rfl) (hb hby own_d4_18) (fun _ _ => ⟨rfl, e3, (by decide : 1 + 1 ≤ _), (by decide : 4 + 1 ≤ _)⟩)
  dsimp only [Pt.U, Pt.locs, Pt.cells, Pt.slots] at X5 l5 y5 z5 st5 hQ5
  subst l5 y5 z5
  obtain ⟨tb5, kb5, rfl, N5q, K5, ge5, V5⟩ := hQ5
  have N5 := Fr.app N2 N5q
  have sz6 : h3.size ≤ T5.heap.size := K5.1
  have lt_tb5 := own_lt V5.lt
  refine OwnFin.adv (B := T5.setTop (mkF m 21 #[.val (.int cc)] [(.ref tb5), (.ref b3), (.ref b3)])) (fun _ k => st5 _ k) ?_
  refine OwnFin.adv (B := T5.setTop (mkF m 22 #[.val (.int cc)] [(.int (0 : Int32)), (.ref tb5), (.ref b3), (.ref b3)])) (fun _ k => XS.iconst X5.here hx rfl (hb hby own_d4_21) k) ?_
  have Fv8_2 : Exa Z T5.heap b3 "java/lang/String" := (A3.keep K5)
  have Fv9_2 : Fld Z T5.heap b3 "java/lang/String" "value" "[B" .null := (F3_value.keep K5 nin0)
  have Fv10_2 : Fld Z T5.heap b3 "java/lang/String" "coder" "B" (.int (0 : Int32)) := (F3_coder.keep K5 nin0)
  obtain ⟨_, _, ⟨T7, L7, k7, n7⟩, -, X7, ⟨Lc7, hQ7, l7, y7, z7⟩, st7⟩ := X5.specialBack hx (y := (⟨"java/lang/String", "<init>", "([BB)V"⟩ : MethodName)) rfl hown (mvT hZ (hw _ (List.mem_of_getElem? (i := 57) rfl))) (mvT hZ (hw _ (List.mem_of_getElem? (i := 58) rfl))) (mvT hZ (hw _ (List.mem_of_getElem? (i := 59) rfl))) (by decide) (backOf (W := 1) (own_strBB l Z a0 hw [] b3 tb5 _ _ T5.heap n0 (by omega) Fv8_2 Fv9_2 Fv10_2 (by omega)) hZ (hw _ (List.mem_of_getElem? (i := 59) rfl)) (hw _ (List.mem_of_getElem? (i := 22) rfl)) (by decide) (by decide)) (g := (mkF m 22 #[.val (.int cc)] [(.int (0 : Int32)), (.ref tb5), (.ref b3), (.ref b3)])) rfl (by rw [hml]; rfl) (Steps.refl _) (a := b3) (argsL := [(.ref tb5), (.int (0 : Int32))]) (rest := [(.ref b3)]) (lenOf own_pd_x28x5bBBx29V rfl) rfl (by show 2 * 0 + _ ≤ _; exact Nat.le_of_eq rfl) (hb hby own_d4_22) (fun _ _ => ⟨rfl, rfl, (by decide : 2 + 0 ≤ _), (by decide : 5 + 0 ≤ _)⟩)
  dsimp only [Pt.U, Pt.locs, Pt.cells, Pt.slots] at X7 l7 y7 z7 st7 hQ7
  subst l7 y7 z7
  obtain ⟨rfl, N7q, K7, Fa7, Fb7⟩ := hQ7
  have N7 := Fr.app N5 N7q
  have sz11 : T5.heap.size ≤ T7.heap.size := K7.1
  refine OwnFin.adv (B := T7.setTop (mkF m 25 #[.val (.int cc)] [(.ref b3)])) (fun _ k => st7.trans k) ?_
  obtain ⟨fs, hr, hrun, hended, hW, hsame⟩ := X7.leave (v := some (.ref b3)) (fun h => by rw [Bd.returns] at h; cases h)
  refine OwnFin.leaf hP' ⟨_, _, own_retR X7 hx Bd.returns rfl rfl rfl (hb hby own_d4_25) hr, hrun, hended, _, _, rfl, ?_, ⟨_, rfl⟩, hW, hsame.mono (by decide) (by decide)⟩
  have Fv12_3 : Exa Z T7.heap b3 "java/lang/String" := (Fv8_2.keep K7)
  have Fv13_3 : Arv Z T7.heap tb5 kb5 .byte (1 : Int32) [(.int cc.toInt8.toInt32)] (.int (0 : Int32)) := (V5.keep K7 (ninS (own_ne (by omega)) nin0))
  exact ⟨_, _, _, rfl, N7, ((((Keep.refl h0 []).ext E3).trans K5 all0).trans K7 (allS (Or.inr (by omega)) all0)), by omega, by omega, Fv12_3, Fb7, Fa7, Fv13_3⟩
theorem own_d9_0 : decode jdk_30_method_1_code 0 = .ok (.aload_n 0, 1) := by decide +kernel
theorem own_d9_1 : decode jdk_30_method_1_code 1 = .ok (.invokespecial 1, 3) := by decide +kernel
theorem own_d9_4 : decode jdk_30_method_1_code 4 = .ok (.return_, 1) := by decide +kernel
theorem own_ef_recInit (m : MethodId) (x0 : Addr) : entryFrame m #[(.ref x0)] 1 = mkF m 0 #[.val (.ref x0)] [] := by first | (simp [entryFrame, mkF, argsToLocals, Value.category]; done) | rfl
theorem own_pn_java_lang_Record : plainName "java/lang/Record" = true := by first | (simp [plainName, overriddenIn]; done) | decide +kernel
def own_Q_recInit (Z : State) (ob : Addr) (h0 : Heap) (n0 : Nat) (v : Option Value) (h : Heap) (L : List Loc) : Prop := v = none ∧ Fr n0 L ∧ h = h0
set_option maxRecDepth 65536 in
set_option maxHeartbeats 40000000 in
theorem own_recInit (l : Launch) (Z : State) (a0 : Array Value) (hw : ∀ d ∈ tables_1, d.before a0 Z = true) (ws : List Jvm.Cond) (ob : Addr) (h0 : Heap) (n0 : Nat) (Z0 : n0 ≤ h0.size) :
    MetFree l (⟨"java/lang/Record", "<init>", "()V"⟩ : MethodName) (head1 (Jvm.Cond.code (⟨"java/lang/Record", "<init>", "()V"⟩ : MethodName) jdk_30_method_1_code 1 none :: ws) ({ frames := 1, cells := 0, slots := 0, locals := 12 } : Room)) (fun A0 U0 => A0 = #[(.ref ob)] ∧ Z.Warmed39 U0.vm ∧ U0.heap = h0) (fun _ _ _ _ _ => True) (fun _ U0 o0 U1 => ∃ v0 L0, o0 = .returned v0 ∧ own_Q_recInit Z ob h0 n0 v0 U1.heap L0 ∧ FrameEnd U0 o0 U1 L0 ({ frames := 1, cells := 0, slots := 0, locals := 12 } : Room).cells ({ frames := 1, cells := 0, slots := 0, locals := 12 } : Room).slots) := by
  refine MetFree.of_bodySF (plainFor_of_name own_pn_java_lang_Record) hisR ?_
  intro p e s m args below meth c s₁ Bd hml0 hP hK
  obtain ⟨rfl, hZ, hh⟩ := hP
  have hx := Bd.exec
  have hby := Bd.bytes
  have hml : c.maxLocals = 1 := hml0
  have hown : s.vm.findClass "java/lang/Record" = some m.cls := findClass_of_methodNamed Bd.named
  have hnm := (name_of_methodNamed Bd.named Bd.method).1
  have X0 : Stand p l e ({ frames := 1, cells := 0, slots := 0, locals := 12 } : Room) s m #[(.ref ob)] below meth c s₁ [] 0 0 := Stand.of_body Bd
  have e0 : s₁.heap = h0 := by rw [← hh, Bd.state]; rfl
  have N0 := Fr.nil n0
  refine OwnFin.entry (own_ef_recInit m ob) (fun P' hP' => ?_)
  refine OwnFin.adv (B := s₁.setTop (mkF m 1 #[.val (.ref ob)] [(.ref ob)])) (fun _ k => XS.aloadN X0.here hx rfl (hb hby own_d9_0) rfl rfl k) ?_
  obtain ⟨T1, X1, e1, st1⟩ := initO X0 hx hZ hown (hw _ (List.mem_of_getElem? (i := 68) rfl)) (hw _ (List.mem_of_getElem? (i := 32) rfl)) (hw _ (List.mem_of_getElem? (i := 33) rfl)) e0 (g := (mkF m 1 #[.val (.ref ob)] [(.ref ob)])) rfl (by rw [hml]; rfl) rfl (hb hby own_d9_1) (by decide) (W := 0) (by show 2 * 0 + _ ≤ _; exact Nat.le_of_eq rfl) (by decide)
  refine OwnFin.adv (B := T1.setTop (mkF m 4 #[.val (.ref ob)] [])) (fun _ k => st1 _ k) ?_
  obtain ⟨fs, hr, hrun, hended, hW, hsame⟩ := X1.leave (v := none) (fun _ => rfl)
  refine OwnFin.leaf hP' ⟨_, _, X1.returnOut hx Bd.returns (hb hby own_d9_4) hr, hrun, hended, _, _, rfl, ?_, ⟨_, rfl⟩, hW, hsame.mono (by decide) (by decide)⟩
  exact ⟨rfl, N0, e1⟩
theorem own_d2_0 : decode jdk_42_method_149_code 0 = .ok (.aload_n 0, 1) := by decide +kernel
theorem own_d2_1 : decode jdk_42_method_149_code 1 = .ok (.invokespecial 1, 3) := by decide +kernel
theorem own_d2_4 : decode jdk_42_method_149_code 4 = .ok (.iload_n 3, 1) := by decide +kernel
theorem own_d2_5 : decode jdk_42_method_149_code 5 = .ok (.ifCond .ne 22, 3) := by decide +kernel
theorem own_d2_8 : decode jdk_42_method_149_code 8 = .ok (.aload_n 0, 1) := by decide +kernel
theorem own_d2_9 : decode jdk_42_method_149_code 9 = .ok (.ldc 7, 2) := by decide +kernel
theorem own_d2_11 : decode jdk_42_method_149_code 11 = .ok (.getfield 9, 3) := by decide +kernel
theorem own_d2_14 : decode jdk_42_method_149_code 14 = .ok (.putfield 9, 3) := by decide +kernel
theorem own_d2_17 : decode jdk_42_method_149_code 17 = .ok (.aload_n 0, 1) := by decide +kernel
theorem own_d2_18 : decode jdk_42_method_149_code 18 = .ok (.ldc 7, 2) := by decide +kernel
theorem own_d2_20 : decode jdk_42_method_149_code 20 = .ok (.getfield 15, 3) := by decide +kernel
theorem own_d2_23 : decode jdk_42_method_149_code 23 = .ok (.putfield 15, 3) := by decide +kernel
theorem own_d2_26 : decode jdk_42_method_149_code 26 = .ok (.return_, 1) := by decide +kernel
theorem own_ef_strE5 (m : MethodId) (x0 : Addr) (x1 : Addr) (x2 : Int32) (x3 : Int32) : entryFrame m #[(.ref x0), (.ref x1), (.int x2), (.int x3), .null] 6 = mkF m 0 #[.val (.ref x0), .val (.ref x1), .val (.int x2), .val (.int x3), .val .null, .unset] [] := by first | (simp [entryFrame, mkF, argsToLocals, Value.category]; done) | rfl
def own_Q_strE5 (Z : State) (ob ar : Addr) (u1 : Value) (h0 : Heap) (n0 : Nat) (v : Option Value) (h : Heap) (L : List Loc) : Prop := v = none ∧ Fr n0 L ∧ Keep h0 h [ob]
set_option maxRecDepth 65536 in
set_option maxHeartbeats 40000000 in
theorem own_strE5 (l : Launch) (Z : State) (a0 : Array Value) (hw : ∀ d ∈ tables_1, d.before a0 Z = true) (ws : List Jvm.Cond) (ob ar : Addr) (u1 : Value) (h0 : Heap) (n0 : Nat) (Z0 : n0 ≤ h0.size) (E : Exa Z h0 ob "java/lang/String") (Fv : Fld Z h0 ob "java/lang/String" "value" "[B" .null) (Fc : Fld Z h0 ob "java/lang/String" "coder" "B" u1) (g_ob : n0 ≤ ob) :
    MetFree l (⟨"java/lang/String", "<init>", "([CIILjava/lang/Void;)V"⟩ : MethodName) (head1 (Jvm.Cond.code (⟨"java/lang/String", "<init>", "([CIILjava/lang/Void;)V"⟩ : MethodName) jdk_42_method_149_code 6 none :: ws) ({ frames := 1, cells := 4, slots := 8, locals := 12 } : Room)) (fun A0 U0 => A0 = #[(.ref ob), (.ref ar), (.int (0 : Int32)), (.int (0 : Int32)), .null] ∧ Z.Warmed39 U0.vm ∧ U0.heap = h0 ∧ CHv Z own_EL U0.vm h0) (fun _ _ _ _ _ => True) (fun _ U0 o0 U1 => ∃ v0 L0, o0 = .returned v0 ∧ own_Q_strE5 Z ob ar u1 h0 n0 v0 U1.heap L0 ∧ CHr Z own_EL U0.vm U0.heap U1.vm U1.heap ∧ ReturnedEndW U0 o0 U1 L0 ({ frames := 1, cells := 4, slots := 8, locals := 12 } : Room).cells ({ frames := 1, cells := 4, slots := 8, locals := 12 } : Room).slots) := by
  refine MetFree.of_bodySF (plainFor_of_name own_pn_java_lang_String) hisR ?_
  intro p e s m args below meth c s₁ Bd hml0 hP hK
  obtain ⟨rfl, hZ, hh, H0⟩ := hP
  have hx := Bd.exec
  have hby := Bd.bytes
  have hml : c.maxLocals = 6 := hml0
  have hown : s.vm.findClass "java/lang/String" = some m.cls := findClass_of_methodNamed Bd.named
  have hnm := (name_of_methodNamed Bd.named Bd.method).1
  have X0 : Stand p l e ({ frames := 1, cells := 4, slots := 8, locals := 12 } : Room) s m #[(.ref ob), (.ref ar), (.int (0 : Int32)), (.int (0 : Int32)), .null] below meth c s₁ [] 0 0 := Stand.of_body Bd
  have e0 : s₁.heap = h0 := by rw [← hh, Bd.state]; rfl
  have N0 := Fr.nil n0
  refine OwnFin.entry (own_ef_strE5 m ob ar (0 : Int32) (0 : Int32)) (fun P' hP' => ?_)
  have lt_ob := own_lt E.lt
  have Sf_ob : Safe Z own_EL s.vm h0 ob := own_safeStr hZ.alike E Fv
  refine OwnFin.adv (B := s₁.setTop (mkF m 1 #[.val (.ref ob), .val (.ref ar), .val (.int (0 : Int32)), .val (.int (0 : Int32)), .val .null, .unset] [(.ref ob)])) (fun _ k => XS.aloadN X0.here hx rfl (hb hby own_d2_0) rfl rfl k) ?_
  obtain ⟨T1, X1, e1, st1⟩ := initO X0 hx hZ hown (hw _ (List.mem_of_getElem? (i := 31) rfl)) (hw _ (List.mem_of_getElem? (i := 32) rfl)) (hw _ (List.mem_of_getElem? (i := 33) rfl)) e0 (g := (mkF m 1 #[.val (.ref ob), .val (.ref ar), .val (.int (0 : Int32)), .val (.int (0 : Int32)), .val .null, .unset] [(.ref ob)])) rfl (by rw [hml]; rfl) rfl (hb hby own_d2_1) (by decide) (W := 0) (by show 2 * 0 + _ ≤ _; exact Nat.le_of_eq rfl) (by decide)
  refine OwnFin.adv (B := T1.setTop (mkF m 4 #[.val (.ref ob), .val (.ref ar), .val (.int (0 : Int32)), .val (.int (0 : Int32)), .val .null, .unset] [])) (fun _ k => st1 _ k) ?_
  refine OwnFin.adv (B := T1.setTop (mkF m 5 #[.val (.ref ob), .val (.ref ar), .val (.int (0 : Int32)), .val (.int (0 : Int32)), .val .null, .unset] [(.int (0 : Int32))])) (fun _ k => XS.iloadN X1.here hx rfl (hb hby own_d2_4) rfl k) ?_
  have hc5_4 : (0 : Int32) = (0 : Int32) := rfl
  refine OwnFin.adv (B := T1.setTop (mkF m 8 #[.val (.ref ob), .val (.ref ar), .val (.int (0 : Int32)), .val (.int (0 : Int32)), .val .null, .unset] [])) (fun _ k => XS.ifNo X1.here hx rfl (hb hby own_d2_5) rfl ((if0 _ _).trans (teq hc5_4).2) k) ?_
  refine OwnFin.adv (B := T1.setTop (mkF m 9 #[.val (.ref ob), .val (.ref ar), .val (.int (0 : Int32)), .val (.int (0 : Int32)), .val .null, .unset] [(.ref ob)])) (fun _ k => XS.aloadN X1.here hx rfl (hb hby own_d2_8) rfl rfl k) ?_
  obtain ⟨a2, T2, h2, kk2, bb2, kb2, X2, e2, E2, hS2, hk2, hZ, hown, Ea2, Fc2, Fv2, Vb2, lta2, ltb2, C2, Lt2, sf2, st2⟩ := ldcCH (s := s) (vm0 := s.vm) X1 hx hZ hown (hw _ (List.mem_of_getElem? (i := 34) rfl)) (fun d hd => hw d ((by decide +kernel : ∀ d ∈ Bundle.stringAtoms, d ∈ tables_1) d hd)) e1 (State.WarmedH.since (State.WarmedH.refl s) 0) (Nat.zero_le _) (own_EW hw) (by decide) ((CHr.refl H0)).1 (vs := []) (z := (0 : Int32)) ⟨by decide +kernel, by decide +kernel⟩ (by decide) (by decide) (g := (mkF m 9 #[.val (.ref ob), .val (.ref ar), .val (.int (0 : Int32)), .val (.int (0 : Int32)), .val .null, .unset] [(.ref ob)])) rfl (hb hby own_d2_9) (n := 0) (by decide) (by decide) (by decide) (by decide)
  have sz3 : h0.size ≤ h2.size := E2.1
  have chA2 : CHr Z own_EL s.vm h0 T2.vm h2 := ((CHr.refl H0)).trans C2
  refine OwnFin.adv (B := T2.setTop (mkF m 11 #[.val (.ref ob), .val (.ref ar), .val (.int (0 : Int32)), .val (.int (0 : Int32)), .val .null, .unset] [(.ref a2), (.ref ob)])) (fun _ k => st2 _ k) ?_
  obtain ⟨T4, X4, e4, st4⟩ := getF X2 hx hZ hown (host := "") (Or.inl (hw _ (List.mem_of_getElem? (i := 40) rfl))) Via.refl e2 Fv2 (g := (mkF m 11 #[.val (.ref ob), .val (.ref ar), .val (.int (0 : Int32)), .val (.int (0 : Int32)), .val .null, .unset] [(.ref a2), (.ref ob)])) rfl rfl (hb hby own_d2_11)
  refine OwnFin.adv (B := T4.setTop (mkF m 14 #[.val (.ref ob), .val (.ref ar), .val (.int (0 : Int32)), .val (.int (0 : Int32)), .val .null, .unset] [(.ref bb2), (.ref ob)])) (fun _ k => st4 _ k) ?_
  have Fv5_1 : Exa Z h2 ob "java/lang/String" := (E.ext E2)
  have Fv6_1 : Fld Z h2 ob "java/lang/String" "value" "[B" .null := (Fv.ext E2)
  obtain ⟨T7, h7, X7, e7, W7, st7⟩ := putF X4 hx hZ hown (host := "") (Or.inl (hw _ (List.mem_of_getElem? (i := 40) rfl))) Via.refl e4 Fv6_1 Fv5_1 (Or.inr ⟨(hw _ (List.mem_of_getElem? (i := 36) rfl)), rfl, hnm⟩) (hw _ (List.mem_of_getElem? (i := 21) rfl)) (ty := (.array .byte)) (by decide) rfl rfl (g := (mkF m 14 #[.val (.ref ob), .val (.ref ar), .val (.int (0 : Int32)), .val (.int (0 : Int32)), .val .null, .unset] [(.ref bb2), (.ref ob)])) rfl rfl (hb hby own_d2_14)
  have Fw7 : Fld Z h7 ob "java/lang/String" "value" "[B" (.ref bb2) := Fv6_1.same W7
  have sz8 : h2.size ≤ h7.size := Nat.le_of_eq W7.size.symm
  have Sf9 : Safe Z own_EL T2.vm h2 ob := (C2.safe (own_lt (by omega)) Sf_ob)
  have chA8 : CHr Z own_EL s.vm h0 T2.vm h7 := (chA2).trans (CHr.wr W7 Sf9 (chA2).1)
  have N7 := Fr.snoc X7 N0 (by omega : n0 ≤ ob)
  refine OwnFin.adv (B := T7.setTop (mkF m 17 #[.val (.ref ob), .val (.ref ar), .val (.int (0 : Int32)), .val (.int (0 : Int32)), .val .null, .unset] [])) (fun _ k => st7 _ k) ?_
  refine OwnFin.adv (B := T7.setTop (mkF m 18 #[.val (.ref ob), .val (.ref ar), .val (.int (0 : Int32)), .val (.int (0 : Int32)), .val .null, .unset] [(.ref ob)])) (fun _ k => XS.aloadN X7.here hx rfl (hb hby own_d2_17) rfl rfl k) ?_
  obtain ⟨a10, T10, h10, kk10, bb10, kb10, X10, e10, E10, hS10, hk10, hZ, hown, Ea10, Fc10, Fv10, Vb10, lta10, ltb10, C10, Lt10, sf10, st10⟩ := ldcCH (s := s) (vm0 := T2.vm) X7 hx hZ hown (hw _ (List.mem_of_getElem? (i := 34) rfl)) (fun d hd => hw d ((by decide +kernel : ∀ d ∈ Bundle.stringAtoms, d ∈ tables_1) d hd)) e7 hS2 (by omega) (own_EW hw) (by decide) (chA8).1 (vs := []) (z := (0 : Int32)) ⟨by decide +kernel, by decide +kernel⟩ (by decide) (by decide) (g := (mkF m 18 #[.val (.ref ob), .val (.ref ar), .val (.int (0 : Int32)), .val (.int (0 : Int32)), .val .null, .unset] [(.ref ob)])) rfl (hb hby own_d2_18) (n := 0) (by decide) (by decide) (by decide) (by decide)
  have sz11 : h7.size ≤ h10.size := E10.1
  have chA10 : CHr Z own_EL s.vm h0 T10.vm h10 := (chA8).trans C10
  refine OwnFin.adv (B := T10.setTop (mkF m 20 #[.val (.ref ob), .val (.ref ar), .val (.int (0 : Int32)), .val (.int (0 : Int32)), .val .null, .unset] [(.ref a10), (.ref ob)])) (fun _ k => st10 _ k) ?_
  obtain ⟨T12, X12, e12, st12⟩ := getF X10 hx hZ hown (host := "") (Or.inl (hw _ (List.mem_of_getElem? (i := 41) rfl))) Via.refl e10 Fc10 (g := (mkF m 20 #[.val (.ref ob), .val (.ref ar), .val (.int (0 : Int32)), .val (.int (0 : Int32)), .val .null, .unset] [(.ref a10), (.ref ob)])) rfl rfl (hb hby own_d2_20)
  refine OwnFin.adv (B := T12.setTop (mkF m 23 #[.val (.ref ob), .val (.ref ar), .val (.int (0 : Int32)), .val (.int (0 : Int32)), .val .null, .unset] [(.int (0 : Int32)), (.ref ob)])) (fun _ k => st12 _ k) ?_
  have Fv13_3 : Exa Z h10 ob "java/lang/String" := ((Fv5_1.wr W7).ext E10)
  have Fv14_3 : Fld Z h10 ob "java/lang/String" "coder" "B" u1 := (((Fc.ext E2).other W7 (Or.inr (slot_ne (Or.inr (hw _ (List.mem_of_getElem? (i := 37) rfl))) (Or.inr (hw _ (List.mem_of_getElem? (i := 36) rfl))) (by decide) (t := .byte) (t' := (.array .byte)) (by decide) (by decide)))).ext E10)
  obtain ⟨T15, h15, X15, e15, W15, st15⟩ := putFN X12 hx hZ hown (hw _ (List.mem_of_getElem? (i := 41) rfl)) Via.refl e12 Fv14_3 Fv13_3 (Or.inr ⟨(hw _ (List.mem_of_getElem? (i := 37) rfl)), rfl, hnm⟩) (hw _ (List.mem_of_getElem? (i := 21) rfl)) (ty := .byte) (v' := .int (nar .byte (0 : Int32))) (by decide) rfl (fits_nar_byte _) (g := (mkF m 23 #[.val (.ref ob), .val (.ref ar), .val (.int (0 : Int32)), .val (.int (0 : Int32)), .val .null, .unset] [(.int (0 : Int32)), (.ref ob)])) rfl rfl (hb hby own_d2_23)
  have Fw15 : Fld Z h15 ob "java/lang/String" "coder" "B" (.int (0 : Int32)) := Fv14_3.same W15
  have sz16 : h10.size ≤ h15.size := Nat.le_of_eq W15.size.symm
  have Sf17 : Safe Z own_EL T10.vm h10 ob := (C10.safe (own_lt (by omega)) (Safe.wr W7 Sf9 (chA2).1 Sf9))
  have chA16 : CHr Z own_EL s.vm h0 T10.vm h15 := (chA10).trans (CHr.wr W15 Sf17 (chA10).1)
  have N15 := Fr.snoc X15 N7 (by omega : n0 ≤ ob)
  refine OwnFin.adv (B := T15.setTop (mkF m 26 #[.val (.ref ob), .val (.ref ar), .val (.int (0 : Int32)), .val (.int (0 : Int32)), .val .null, .unset] [])) (fun _ k => st15 _ k) ?_
  obtain ⟨fs, hr, hrun, hended, hE⟩ := X15.leaveW hS10 (by rw [e15]; omega) (v := none) (fun _ => rfl)
  refine OwnFin.leaf hP' ⟨_, _, X15.returnOut hx Bd.returns (hb hby own_d2_26) hr, hrun, hended, _, _, rfl, ?_, own_chend (chA16) (CHv.at (s := s) (vm0 := T10.vm) (T := T15) X15 hZ (own_EW hw) (chA16).1) hh e15, own_monoW hE (by decide) (by decide)⟩
  rw [show (T15.setFrames fs).heap = h15 from e15]
  exact ⟨rfl, N15, (((((Keep.refl h0 [ob]).ext E2).wr W7 (Or.inl (List.mem_of_getElem? (i := 0) rfl))).ext E10).wr W15 (Or.inl (List.mem_of_getElem? (i := 0) rfl)))⟩
theorem own_d1_0 : decode jdk_42_method_3_code 0 = .ok (.aload_n 0, 1) := by decide +kernel
theorem own_d1_1 : decode jdk_42_method_3_code 1 = .ok (.aload_n 1, 1) := by decide +kernel
theorem own_d1_2 : decode jdk_42_method_3_code 2 = .ok (.iconst 0, 1) := by decide +kernel
theorem own_d1_3 : decode jdk_42_method_3_code 3 = .ok (.aload_n 1, 1) := by decide +kernel
theorem own_d1_4 : decode jdk_42_method_3_code 4 = .ok (.arraylength, 1) := by decide +kernel
theorem own_d1_5 : decode jdk_42_method_3_code 5 = .ok (.aconst_null, 1) := by decide +kernel
theorem own_pd_x28x5bCIILjavax2flangx2fVoidx3bx29V : parseMethodDescriptor "([CIILjava/lang/Void;)V" = some ⟨[(.array .char), .int, .int, (.object "java/lang/Void")], none⟩ := by decide +kernel
theorem own_d1_6 : decode jdk_42_method_3_code 6 = .ok (.invokespecial 27, 3) := by decide +kernel
theorem own_d1_9 : decode jdk_42_method_3_code 9 = .ok (.return_, 1) := by decide +kernel
theorem own_ef_strE2 (m : MethodId) (x0 : Addr) (x1 : Addr) : entryFrame m #[(.ref x0), (.ref x1)] 2 = mkF m 0 #[.val (.ref x0), .val (.ref x1)] [] := by first | (simp [entryFrame, mkF, argsToLocals, Value.category]; done) | rfl
def own_Q_strE2 (Z : State) (ob ar : Addr) (u1 : Value) (kc : ClassId) (dc : Value) (h0 : Heap) (n0 : Nat) (v : Option Value) (h : Heap) (L : List Loc) : Prop := v = none ∧ Fr n0 L ∧ Keep h0 h [ob]
set_option maxRecDepth 65536 in
set_option maxHeartbeats 40000000 in
theorem own_strE2 (l : Launch) (Z : State) (a0 : Array Value) (hw : ∀ d ∈ tables_1, d.before a0 Z = true) (ws : List Jvm.Cond) (ob ar : Addr) (u1 : Value) (kc : ClassId) (dc : Value) (h0 : Heap) (n0 : Nat) (Z0 : n0 ≤ h0.size) (E : Exa Z h0 ob "java/lang/String") (Fv : Fld Z h0 ob "java/lang/String" "value" "[B" .null) (Fc : Fld Z h0 ob "java/lang/String" "coder" "B" u1) (g_ob : n0 ≤ ob) (Va : Arv Z h0 ar kc .char (0 : Int32) [] dc) :
    MetFree l (⟨"java/lang/String", "<init>", "([C)V"⟩ : MethodName) (head1 (Jvm.Cond.code (⟨"java/lang/String", "<init>", "([C)V"⟩ : MethodName) jdk_42_method_3_code 2 none :: ws) ({ frames := 2, cells := 4, slots := 8, locals := 29 } : Room)) (fun A0 U0 => A0 = #[(.ref ob), (.ref ar)] ∧ Z.Warmed39 U0.vm ∧ U0.heap = h0 ∧ CHv Z own_EL U0.vm h0) (fun _ _ _ _ _ => True) (fun _ U0 o0 U1 => ∃ v0 L0, o0 = .returned v0 ∧ own_Q_strE2 Z ob ar u1 kc dc h0 n0 v0 U1.heap L0 ∧ CHr Z own_EL U0.vm U0.heap U1.vm U1.heap ∧ ReturnedEndW U0 o0 U1 L0 ({ frames := 2, cells := 4, slots := 8, locals := 29 } : Room).cells ({ frames := 2, cells := 4, slots := 8, locals := 29 } : Room).slots) := by
  refine MetFree.of_bodySF (plainFor_of_name own_pn_java_lang_String) hisR ?_
  intro p e s m args below meth c s₁ Bd hml0 hP hK
  obtain ⟨rfl, hZ, hh, H0⟩ := hP
  have hx := Bd.exec
  have hby := Bd.bytes
  have hml : c.maxLocals = 2 := hml0
  have hown : s.vm.findClass "java/lang/String" = some m.cls := findClass_of_methodNamed Bd.named
  have hnm := (name_of_methodNamed Bd.named Bd.method).1
  have X0 : Stand p l e ({ frames := 2, cells := 4, slots := 8, locals := 29 } : Room) s m #[(.ref ob), (.ref ar)] below meth c s₁ [] 0 0 := Stand.of_body Bd
  have e0 : s₁.heap = h0 := by rw [← hh, Bd.state]; rfl
  have N0 := Fr.nil n0
  refine OwnFin.entry (own_ef_strE2 m ob ar) (fun P' hP' => ?_)
  have lt_ob := own_lt E.lt
  have Sf_ob : Safe Z own_EL s.vm h0 ob := own_safeStr hZ.alike E Fv
  refine OwnFin.adv (B := s₁.setTop (mkF m 1 #[.val (.ref ob), .val (.ref ar)] [(.ref ob)])) (fun _ k => XS.aloadN X0.here hx rfl (hb hby own_d1_0) rfl rfl k) ?_
  refine OwnFin.adv (B := s₁.setTop (mkF m 2 #[.val (.ref ob), .val (.ref ar)] [(.ref ar), (.ref ob)])) (fun _ k => XS.aloadN X0.here hx rfl (hb hby own_d1_1) rfl rfl k) ?_
  refine OwnFin.adv (B := s₁.setTop (mkF m 3 #[.val (.ref ob), .val (.ref ar)] [(.int (0 : Int32)), (.ref ar), (.ref ob)])) (fun _ k => XS.iconst X0.here hx rfl (hb hby own_d1_2) k) ?_
  refine OwnFin.adv (B := s₁.setTop (mkF m 4 #[.val (.ref ob), .val (.ref ar)] [(.ref ar), (.int (0 : Int32)), (.ref ar), (.ref ob)])) (fun _ k => XS.aloadN X0.here hx rfl (hb hby own_d1_3) rfl rfl k) ?_
  obtain ⟨cl1, Ar1, ck1, S1, M1, H1, G1⟩ := id Va
  refine OwnFin.adv (B := s₁.setTop (mkF m 5 #[.val (.ref ob), .val (.ref ar)] [(.int (0 : Int32)), (.int (0 : Int32)), (.ref ar), (.ref ob)])) (fun _ k => X0.arraylength hx (by rw [e0]; exact Ar1.1) (State.isArrayOf_alike hZ.alike Ar1.2.1) (g := (mkF m 4 #[.val (.ref ob), .val (.ref ar)] [(.ref ar), (.int (0 : Int32)), (.ref ar), (.ref ob)])) rfl rfl (hb hby own_d1_4) _ (by rw [len_of S1 M1]; exact k)) ?_
  refine OwnFin.adv (B := s₁.setTop (mkF m 6 #[.val (.ref ob), .val (.ref ar)] [.null, (.int (0 : Int32)), (.int (0 : Int32)), (.ref ar), (.ref ob)])) (fun _ k => XS.aconstNull X0.here hx rfl (hb hby own_d1_5) k) ?_
  obtain ⟨_, _, ⟨T2, L2, k2, n2⟩, -, X2, hSb2, hgr2, ⟨Lc2, hQ2, l2, y2, z2, C2⟩, st2⟩ := Stand.specialBackS (s := (s.setVm s.vm)) X0 hx (y := (⟨"java/lang/String", "<init>", "([CIILjava/lang/Void;)V"⟩ : MethodName)) rfl hown (mvT hZ (hw _ (List.mem_of_getElem? (i := 27) rfl))) (mvT hZ (hw _ (List.mem_of_getElem? (i := 28) rfl))) (mvT hZ (hw _ (List.mem_of_getElem? (i := 30) rfl))) (by decide) (backOfSH (s := s) (vm0 := s.vm) (W := 0) (own_strE5 l Z a0 hw [] ob ar _ h0 n0 (by omega) E Fv Fc (by omega)) hZ (hw _ (List.mem_of_getElem? (i := 30) rfl)) (hw _ (List.mem_of_getElem? (i := 22) rfl)) (by decide) (by decide) (own_EW hw) ((CHr.refl H0)).1) (g := (mkF m 6 #[.val (.ref ob), .val (.ref ar)] [.null, (.int (0 : Int32)), (.int (0 : Int32)), (.ref ar), (.ref ob)])) rfl (by rw [hml]; rfl) (Steps.refl _) (a := ob) (argsL := [(.ref ar), (.int (0 : Int32)), (.int (0 : Int32)), .null]) (rest := []) (lenOf own_pd_x28x5bCIILjavax2flangx2fVoidx3bx29V rfl) rfl (by show 2 * 0 + _ ≤ _; exact Nat.le_of_eq rfl) (hb hby own_d1_6) (fun _ _ => ⟨rfl, e0, (by decide : 0 + 4 ≤ _), (by decide : 0 + 8 ≤ _)⟩)
  dsimp only [Pt.U, Pt.locs, Pt.cells, Pt.slots] at X2 l2 y2 z2 st2 hQ2 hSb2 hgr2 C2
  subst l2 y2 z2
  obtain ⟨Xr2, hS2, hZ, hown⟩ := rebS (s := s) (vm0 := s.vm) (State.WarmedH.since (State.WarmedH.refl s) 0) (Nat.zero_le _) X2 hSb2 hgr2 hZ hown
  have hkk2 : T2.heap.size ≤ T2.heap.size := Nat.le_refl _
  obtain ⟨rfl, N2q, K2⟩ := hQ2
  have N2 := Fr.app N0 N2q
  have sz3 : h0.size ≤ T2.heap.size := K2.1
  have chA3 : CHr Z own_EL s.vm h0 T2.vm T2.heap := ((CHr.refl H0)).trans C2
  refine OwnFin.adv (B := T2.setTop (mkF m 9 #[.val (.ref ob), .val (.ref ar)] [])) (fun _ k => st2.trans k) ?_
  obtain ⟨fs, hr, hrun, hended, hE⟩ := Xr2.leaveW hS2 (by omega) (v := none) (fun _ => rfl)
  refine OwnFin.leaf hP' ⟨_, _, Xr2.returnOut hx Bd.returns (hb hby own_d1_9) hr, hrun, hended, _, _, rfl, ?_, own_chend (chA3) (CHv.at (s := s) (vm0 := T2.vm) (T := T2) Xr2 hZ (own_EW hw) (chA3).1) hh rfl, own_monoW hE (by decide) (by decide)⟩
  rw [show (T2.setFrames fs).heap = T2.heap from rfl]
  exact ⟨rfl, N2, ((Keep.refl h0 [ob]).trans K2 (allS (Or.inl (List.mem_of_getElem? (i := 0) rfl)) all0))⟩
theorem own_d20_0 : decode jdk_42_method_55_code 0 = .ok (.aload_n 0, 1) := by decide +kernel
theorem own_d20_1 : decode jdk_42_method_55_code 1 = .ok (.getfield 9, 3) := by decide +kernel
theorem own_d20_4 : decode jdk_42_method_55_code 4 = .ok (.arraylength, 1) := by decide +kernel
theorem own_d20_5 : decode jdk_42_method_55_code 5 = .ok (.ifCond .ne 7, 3) := by decide +kernel
theorem own_d20_12 : decode jdk_42_method_55_code 12 = .ok (.iconst 0, 1) := by decide +kernel
theorem own_d20_13 : decode jdk_42_method_55_code 13 = .ok (.ireturn, 1) := by decide +kernel
theorem own_ef_isEmp (m : MethodId) (x0 : Addr) : entryFrame m #[(.ref x0)] 1 = mkF m 0 #[.val (.ref x0)] [] := by first | (simp [entryFrame, mkF, argsToLocals, Value.category]; done) | rfl
def own_Q_isEmp (Z : State) (ob tb : Addr) (kb : ClassId) (w0 dv : Value) (h0 : Heap) (n0 : Nat) (v : Option Value) (h : Heap) (L : List Loc) : Prop := v = some (.int (0 : Int32)) ∧ Fr n0 L ∧ h = h0
set_option maxRecDepth 65536 in
set_option maxHeartbeats 40000000 in
theorem own_isEmp (l : Launch) (Z : State) (a0 : Array Value) (hw : ∀ d ∈ tables_1, d.before a0 Z = true) (ws : List Jvm.Cond) (ob tb : Addr) (kb : ClassId) (w0 dv : Value) (h0 : Heap) (n0 : Nat) (Z0 : n0 ≤ h0.size) (Fv : Fld Z h0 ob "java/lang/String" "value" "[B" (.ref tb)) (Va : Arv Z h0 tb kb .byte (1 : Int32) [w0] dv) :
    MetFree l (⟨"java/lang/String", "isEmpty", "()Z"⟩ : MethodName) (head1 (Jvm.Cond.code (⟨"java/lang/String", "isEmpty", "()Z"⟩ : MethodName) jdk_42_method_55_code 1 (some .boolean) :: ws) ({ frames := 0, cells := 0, slots := 0, locals := 0 } : Room)) (fun A0 U0 => A0 = #[(.ref ob)] ∧ Z.Warmed39 U0.vm ∧ U0.heap = h0) (fun _ _ _ _ _ => True) (fun _ U0 o0 U1 => ∃ v0 L0, o0 = .returned v0 ∧ own_Q_isEmp Z ob tb kb w0 dv h0 n0 v0 U1.heap L0 ∧ FrameEnd U0 o0 U1 L0 ({ frames := 0, cells := 0, slots := 0, locals := 0 } : Room).cells ({ frames := 0, cells := 0, slots := 0, locals := 0 } : Room).slots) := by
  refine MetFree.of_bodySF (plainFor_of_name own_pn_java_lang_String) hisR ?_
  intro p e s m args below meth c s₁ Bd hml0 hP hK
  obtain ⟨rfl, hZ, hh⟩ := hP
  have hx := Bd.exec
  have hby := Bd.bytes
  have hml : c.maxLocals = 1 := hml0
  have hown : s.vm.findClass "java/lang/String" = some m.cls := findClass_of_methodNamed Bd.named
  have hnm := (name_of_methodNamed Bd.named Bd.method).1
  have X0 : Stand p l e ({ frames := 0, cells := 0, slots := 0, locals := 0 } : Room) s m #[(.ref ob)] below meth c s₁ [] 0 0 := Stand.of_body Bd
  have e0 : s₁.heap = h0 := by rw [← hh, Bd.state]; rfl
  have N0 := Fr.nil n0
  refine OwnFin.entry (own_ef_isEmp m ob) (fun P' hP' => ?_)
  refine OwnFin.adv (B := s₁.setTop (mkF m 1 #[.val (.ref ob)] [(.ref ob)])) (fun _ k => XS.aloadN X0.here hx rfl (hb hby own_d20_0) rfl rfl k) ?_
  obtain ⟨T1, X1, e1, st1⟩ := getF X0 hx hZ hown (host := "") (Or.inl (hw _ (List.mem_of_getElem? (i := 40) rfl))) Via.refl e0 Fv (g := (mkF m 1 #[.val (.ref ob)] [(.ref ob)])) rfl rfl (hb hby own_d20_1)
  refine OwnFin.adv (B := T1.setTop (mkF m 4 #[.val (.ref ob)] [(.ref tb)])) (fun _ k => st1 _ k) ?_
  obtain ⟨cl2, Ar2, ck2, S2, M2, H2, G2⟩ := id Va
  refine OwnFin.adv (B := T1.setTop (mkF m 5 #[.val (.ref ob)] [(.int (1 : Int32))])) (fun _ k => X1.arraylength hx (by rw [e1]; exact Ar2.1) (State.isArrayOf_alike hZ.alike Ar2.2.1) (g := (mkF m 4 #[.val (.ref ob)] [(.ref tb)])) rfl rfl (hb hby own_d20_4) _ (by rw [len_of S2 M2]; exact k)) ?_
  have hc5_4 : ¬ ((1 : Int32) = (0 : Int32)) := by decide
  refine OwnFin.adv (B := T1.setTop (mkF m 12 #[.val (.ref ob)] [])) (fun _ k => XS.ifYes X1.here hx rfl (pc0 := 5) (pc' := 12) rfl (hb hby own_d20_5) rfl ((if0 _ _).trans (feq hc5_4).2) (by decide) (by decide) k) ?_
  refine OwnFin.adv (B := T1.setTop (mkF m 13 #[.val (.ref ob)] [(.int (0 : Int32))])) (fun _ k => XS.iconst X1.here hx rfl (hb hby own_d20_12) k) ?_
  obtain ⟨fs, hr, hrun, hended, hW, hsame⟩ := X1.leave (v := some (.int (0 : Int32))) (fun h => by rw [Bd.returns] at h; cases h)
  refine OwnFin.leaf hP' ⟨_, _, retN X1 hx (t := .boolean) Bd.returns (by simp) (hb hby own_d20_13) hr, hrun, hended, _, _, rfl, ?_, ⟨_, rfl⟩, hW, hsame.mono (by decide) (by decide)⟩
  exact ⟨rfl, N0, e1⟩
theorem own_d19_0 : decode jdk_31_method_11_code 0 = .ok (.aload_n 0, 1) := by decide +kernel
theorem own_d19_1 : decode jdk_31_method_11_code 1 = .ok (.ifnonnull 12, 3) := by decide +kernel
theorem own_d19_13 : decode jdk_31_method_11_code 13 = .ok (.aload_n 0, 1) := by decide +kernel
theorem own_d19_14 : decode jdk_31_method_11_code 14 = .ok (.areturn, 1) := by decide +kernel
theorem own_ef_rnn (m : MethodId) (x0 : Addr) (x1 : Addr) : entryFrame m #[(.ref x0), (.ref x1)] 2 = mkF m 0 #[.val (.ref x0), .val (.ref x1)] [] := by first | (simp [entryFrame, mkF, argsToLocals, Value.category]; done) | rfl
theorem own_pn_java_util_Objects : plainName "java/util/Objects" = true := by first | (simp [plainName, overriddenIn]; done) | decide +kernel
def own_Q_rnn (Z : State) (oa om : Addr) (h0 : Heap) (n0 : Nat) (v : Option Value) (h : Heap) (L : List Loc) : Prop := v = some (.ref oa) ∧ Fr n0 L ∧ h = h0
set_option maxRecDepth 65536 in
set_option maxHeartbeats 40000000 in
theorem own_rnn (l : Launch) (Z : State) (a0 : Array Value) (hw : ∀ d ∈ tables_1, d.before a0 Z = true) (ws : List Jvm.Cond) (oa om : Addr) (h0 : Heap) (n0 : Nat) (Z0 : n0 ≤ h0.size) :
    MetFree l (⟨"java/util/Objects", "requireNonNull", "(Ljava/lang/Object;Ljava/lang/String;)Ljava/lang/Object;"⟩ : MethodName) (head1 (Jvm.Cond.code (⟨"java/util/Objects", "requireNonNull", "(Ljava/lang/Object;Ljava/lang/String;)Ljava/lang/Object;"⟩ : MethodName) jdk_31_method_11_code 2 (some (.object "java/lang/Object")) :: ws) ({ frames := 0, cells := 0, slots := 0, locals := 0 } : Room)) (fun A0 U0 => A0 = #[(.ref oa), (.ref om)] ∧ Z.Warmed39 U0.vm ∧ U0.heap = h0) (fun _ _ _ _ _ => True) (fun _ U0 o0 U1 => ∃ v0 L0, o0 = .returned v0 ∧ own_Q_rnn Z oa om h0 n0 v0 U1.heap L0 ∧ FrameEnd U0 o0 U1 L0 ({ frames := 0, cells := 0, slots := 0, locals := 0 } : Room).cells ({ frames := 0, cells := 0, slots := 0, locals := 0 } : Room).slots) := by
  refine MetFree.of_bodySF (plainFor_of_name own_pn_java_util_Objects) hisR ?_
  intro p e s m args below meth c s₁ Bd hml0 hP hK
  obtain ⟨rfl, hZ, hh⟩ := hP
  have hx := Bd.exec
  have hby := Bd.bytes
  have hml : c.maxLocals = 2 := hml0
  have hown : s.vm.findClass "java/util/Objects" = some m.cls := findClass_of_methodNamed Bd.named
  have hnm := (name_of_methodNamed Bd.named Bd.method).1
  have X0 : Stand p l e ({ frames := 0, cells := 0, slots := 0, locals := 0 } : Room) s m #[(.ref oa), (.ref om)] below meth c s₁ [] 0 0 := Stand.of_body Bd
  have e0 : s₁.heap = h0 := by rw [← hh, Bd.state]; rfl
  have N0 := Fr.nil n0
  refine OwnFin.entry (own_ef_rnn m oa om) (fun P' hP' => ?_)
  refine OwnFin.adv (B := s₁.setTop (mkF m 1 #[.val (.ref oa), .val (.ref om)] [(.ref oa)])) (fun _ k => XS.aloadN X0.here hx rfl (hb hby own_d19_0) rfl rfl k) ?_
  refine OwnFin.adv (B := s₁.setTop (mkF m 13 #[.val (.ref oa), .val (.ref om)] [])) (fun _ k => XS.ifnonnullYes X0.here hx rfl (pc0 := 1) (pc' := 13) rfl (hb hby own_d19_1) rfl (by decide) (by decide) k) ?_
  refine OwnFin.adv (B := s₁.setTop (mkF m 14 #[.val (.ref oa), .val (.ref om)] [(.ref oa)])) (fun _ k => XS.aloadN X0.here hx rfl (hb hby own_d19_13) rfl rfl k) ?_
  obtain ⟨fs, hr, hrun, hended, hW, hsame⟩ := X0.leave (v := some (.ref oa)) (fun h => by rw [Bd.returns] at h; cases h)
  refine OwnFin.leaf hP' ⟨_, _, own_retR X0 hx Bd.returns rfl rfl rfl (hb hby own_d19_14) hr, hrun, hended, _, _, rfl, ?_, ⟨_, rfl⟩, hW, hsame.mono (by decide) (by decide)⟩
  exact ⟨rfl, N0, e0⟩
theorem own_d18_0 : decode prog_24_method_1_code 0 = .ok (.aload_n 0, 1) := by decide +kernel
theorem own_d18_1 : decode prog_24_method_1_code 1 = .ok (.invokespecial 1, 3) := by decide +kernel
theorem own_d18_4 : decode prog_24_method_1_code 4 = .ok (.aload_n 1, 1) := by decide +kernel
theorem own_d18_5 : decode prog_24_method_1_code 5 = .ok (.ldc 7, 2) := by decide +kernel
theorem own_pd_x28Ljavax2flangx2fObjectx3bLjavax2flangx2fStringx3bx29Ljavax2flangx2fObjectx3b : parseMethodDescriptor "(Ljava/lang/Object;Ljava/lang/String;)Ljava/lang/Object;" = some ⟨[(.object "java/lang/Object"), (.object "java/lang/String")], some (.object "java/lang/Object")⟩ := by decide +kernel
theorem own_d18_7 : decode prog_24_method_1_code 7 = .ok (.invokestatic 9, 3) := by decide +kernel
theorem own_d18_10 : decode prog_24_method_1_code 10 = .ok (.pop, 1) := by decide +kernel
theorem own_d18_11 : decode prog_24_method_1_code 11 = .ok (.aload_n 1, 1) := by decide +kernel
theorem own_pd_x28x29Z : parseMethodDescriptor "()Z" = some ⟨[], some .boolean⟩ := by decide +kernel
theorem own_d18_12 : decode prog_24_method_1_code 12 = .ok (.invokevirtual 15, 3) := by decide +kernel
theorem own_d18_15 : decode prog_24_method_1_code 15 = .ok (.ifCond .eq 13, 3) := by decide +kernel
theorem own_d18_28 : decode prog_24_method_1_code 28 = .ok (.aload_n 0, 1) := by decide +kernel
theorem own_d18_29 : decode prog_24_method_1_code 29 = .ok (.aload_n 1, 1) := by decide +kernel
theorem own_d18_30 : decode prog_24_method_1_code 30 = .ok (.putfield 28, 3) := by decide +kernel
theorem own_d18_33 : decode prog_24_method_1_code 33 = .ok (.aload_n 0, 1) := by decide +kernel
theorem own_d18_34 : decode prog_24_method_1_code 34 = .ok (.aload_n 2, 1) := by decide +kernel
theorem own_d18_35 : decode prog_24_method_1_code 35 = .ok (.putfield 33, 3) := by decide +kernel
theorem own_d18_38 : decode prog_24_method_1_code 38 = .ok (.return_, 1) := by decide +kernel
theorem own_ef_rfInit (m : MethodId) (x0 : Addr) (x1 : Addr) : entryFrame m #[(.ref x0), (.ref x1), .null] 3 = mkF m 0 #[.val (.ref x0), .val (.ref x1), .val .null] [] := by first | (simp [entryFrame, mkF, argsToLocals, Value.category]; done) | rfl
theorem own_pn_com_example_klotho_klotho_RecordedFailure : plainName "com/example/klotho/klotho/RecordedFailure" = true := by first | (simp [plainName, overriddenIn]; done) | decide +kernel
def own_Q_rfInit (Z : State) (ob et tb : Addr) (kb : ClassId) (w0 dv u0 u1 : Value) (h0 : Heap) (n0 : Nat) (v : Option Value) (h : Heap) (L : List Loc) : Prop := v = none ∧ Fr n0 L ∧ Keep h0 h [ob]
set_option maxRecDepth 65536 in
set_option maxHeartbeats 40000000 in
theorem own_rfInit (l : Launch) (Z : State) (a0 : Array Value) (hw : ∀ d ∈ tables_1, d.before a0 Z = true) (ws : List Jvm.Cond) (ob et tb : Addr) (kb : ClassId) (w0 dv u0 u1 : Value) (h0 : Heap) (n0 : Nat) (Z0 : n0 ≤ h0.size) (E : Exa Z h0 ob "com/example/klotho/klotho/RecordedFailure") (Ee : Exa Z h0 et "java/lang/String") (F0 : Fld Z h0 ob "com/example/klotho/klotho/RecordedFailure" "errorType" "Ljava/lang/String;" u0) (F1 : Fld Z h0 ob "com/example/klotho/klotho/RecordedFailure" "message" "Ljava/lang/String;" u1) (Fv : Fld Z h0 et "java/lang/String" "value" "[B" (.ref tb)) (Va : Arv Z h0 tb kb .byte (1 : Int32) [w0] dv) (g_ob : n0 ≤ ob) :
    MetFree l (⟨"com/example/klotho/klotho/RecordedFailure", "<init>", "(Ljava/lang/String;Ljava/lang/String;)V"⟩ : MethodName) (head1 (Jvm.Cond.code (⟨"com/example/klotho/klotho/RecordedFailure", "<init>", "(Ljava/lang/String;Ljava/lang/String;)V"⟩ : MethodName) prog_24_method_1_code 3 none :: ws) ({ frames := 2, cells := 2, slots := 40, locals := 24 } : Room)) (fun A0 U0 => A0 = #[(.ref ob), (.ref et), .null] ∧ Z.Warmed39 U0.vm ∧ U0.heap = h0) (fun _ _ _ _ _ => True) (fun _ U0 o0 U1 => ∃ v0 L0, o0 = .returned v0 ∧ own_Q_rfInit Z ob et tb kb w0 dv u0 u1 h0 n0 v0 U1.heap L0 ∧ ReturnedEndW U0 o0 U1 L0 ({ frames := 2, cells := 2, slots := 40, locals := 24 } : Room).cells ({ frames := 2, cells := 2, slots := 40, locals := 24 } : Room).slots) := by
  refine MetFree.of_bodySF (plainFor_of_name own_pn_com_example_klotho_klotho_RecordedFailure) hisR ?_
  intro p e s m args below meth c s₁ Bd hml0 hP hK
  obtain ⟨rfl, hZ, hh⟩ := hP
  have hx := Bd.exec
  have hby := Bd.bytes
  have hml : c.maxLocals = 3 := hml0
  have hown : s.vm.findClass "com/example/klotho/klotho/RecordedFailure" = some m.cls := findClass_of_methodNamed Bd.named
  have hnm := (name_of_methodNamed Bd.named Bd.method).1
  have X0 : Stand p l e ({ frames := 2, cells := 2, slots := 40, locals := 24 } : Room) s m #[(.ref ob), (.ref et), .null] below meth c s₁ [] 0 0 := Stand.of_body Bd
  have e0 : s₁.heap = h0 := by rw [← hh, Bd.state]; rfl
  have N0 := Fr.nil n0
  refine OwnFin.entry (own_ef_rfInit m ob et) (fun P' hP' => ?_)
  refine OwnFin.adv (B := s₁.setTop (mkF m 1 #[.val (.ref ob), .val (.ref et), .val .null] [(.ref ob)])) (fun _ k => XS.aloadN X0.here hx rfl (hb hby own_d18_0) rfl rfl k) ?_
  obtain ⟨_, _, ⟨T1, L1, k1, n1⟩, -, X1, ⟨Lc1, hQ1, l1, y1, z1⟩, st1⟩ := X0.specialBack hx (y := (⟨"java/lang/Record", "<init>", "()V"⟩ : MethodName)) rfl hown (mvT hZ (hw _ (List.mem_of_getElem? (i := 121) rfl))) (mvT hZ (hw _ (List.mem_of_getElem? (i := 64) rfl))) (mvT hZ (hw _ (List.mem_of_getElem? (i := 67) rfl))) (by decide) (backOf (W := 0) (own_recInit l Z a0 hw [] ob h0 n0 (by omega)) hZ (hw _ (List.mem_of_getElem? (i := 67) rfl)) (hw _ (List.mem_of_getElem? (i := 66) rfl)) (by decide) (by decide)) (g := (mkF m 1 #[.val (.ref ob), .val (.ref et), .val .null] [(.ref ob)])) rfl (by rw [hml]; rfl) (Steps.refl _) (a := ob) (argsL := []) (rest := []) (lenOf own_pd_x28x29V rfl) rfl (by show 2 * 0 + _ ≤ _; exact Nat.le_of_eq rfl) (hb hby own_d18_1) (fun _ _ => ⟨rfl, e0, (by decide : 0 + 0 ≤ _), (by decide : 0 + 0 ≤ _)⟩)
  dsimp only [Pt.U, Pt.locs, Pt.cells, Pt.slots] at X1 l1 y1 z1 st1 hQ1
  subst l1 y1 z1
  obtain ⟨rfl, N1q, eh1⟩ := hQ1
  have N1 := Fr.app N0 N1q
  refine OwnFin.adv (B := T1.setTop (mkF m 4 #[.val (.ref ob), .val (.ref et), .val .null] [])) (fun _ k => st1.trans k) ?_
  refine OwnFin.adv (B := T1.setTop (mkF m 5 #[.val (.ref ob), .val (.ref et), .val .null] [(.ref et)])) (fun _ k => XS.aloadN X1.here hx rfl (hb hby own_d18_4) rfl rfl k) ?_
  obtain ⟨a2, T2, h2, kk2, X2, e2, E2, hS2, hk2, hZ, hown, st2⟩ := ldcS (s := s) (vm0 := s.vm) X1 hx hZ hown (hw _ (List.mem_of_getElem? (i := 122) rfl)) (fun d hd => hw d ((by decide +kernel : ∀ d ∈ Bundle.stringAtoms, d ∈ tables_1) d hd)) eh1 (State.WarmedH.since (State.WarmedH.refl s) 0) (Nat.zero_le _) (g := (mkF m 5 #[.val (.ref ob), .val (.ref et), .val .null] [(.ref et)])) rfl (hb hby own_d18_5) (n := 36) (by decide) (by decide) (by decide) (by decide)
  have sz3 : h0.size ≤ h2.size := E2.1
  refine OwnFin.adv (B := T2.setTop (mkF m 7 #[.val (.ref ob), .val (.ref et), .val .null] [(.ref a2), (.ref et)])) (fun _ k => st2 _ k) ?_
  obtain ⟨_, _, ⟨T4, L4, k4, n4⟩, -, X4, ⟨Lc4, hQ4, l4, y4, z4⟩, st4⟩ := Jvm.LawKit.callS X2 hx (y := (⟨"java/util/Objects", "requireNonNull", "(Ljava/lang/Object;Ljava/lang/String;)Ljava/lang/Object;"⟩ : MethodName)) hown (mvT hZ (hw _ (List.mem_of_getElem? (i := 123) rfl))) (mvT hZ (hw _ (List.mem_of_getElem? (i := 124) rfl))) (mvT hZ (hw _ (List.mem_of_getElem? (i := 125) rfl))) (mvT hZ (hw _ (List.mem_of_getElem? (i := 126) rfl))) (by decide) (backOf (W := 0) (own_rnn l Z a0 hw [] et a2 h2 n0 (by omega)) hZ (hw _ (List.mem_of_getElem? (i := 126) rfl)) (hw _ (List.mem_of_getElem? (i := 125) rfl)) (by decide) (by decide)) (g := (mkF m 7 #[.val (.ref ob), .val (.ref et), .val .null] [(.ref a2), (.ref et)])) rfl (by rw [hml]; rfl) (argsL := [(.ref et), (.ref a2)]) (rest := []) (lenOf own_pd_x28Ljavax2flangx2fObjectx3bLjavax2flangx2fStringx3bx29Ljavax2flangx2fObjectx3b rfl) rfl (by show 2 * 0 + _ ≤ _; exact Nat.le_of_eq rfl) (hb hby own_d18_7) (fun _ _ => ⟨rfl, e2, (by decide : 2 + 0 ≤ _), (by decide : 40 + 0 ≤ _)⟩)
  dsimp only [Pt.U, Pt.locs, Pt.cells, Pt.slots] at X4 l4 y4 z4 st4 hQ4
  subst l4 y4 z4
  obtain ⟨rfl, N4q, eh4⟩ := hQ4
  have N4 := Fr.app N1 N4q
  refine OwnFin.adv (B := T4.setTop (mkF m 10 #[.val (.ref ob), .val (.ref et), .val .null] [(.ref et)])) (fun _ k => st4 _ k) ?_
  refine OwnFin.adv (B := T4.setTop (mkF m 11 #[.val (.ref ob), .val (.ref et), .val .null] [])) (fun _ k => XS.pop X4.here hx rfl (hb hby own_d18_10) rfl rfl k) ?_
  refine OwnFin.adv (B := T4.setTop (mkF m 12 #[.val (.ref ob), .val (.ref et), .val .null] [(.ref et)])) (fun _ k => XS.aloadN X4.here hx rfl (hb hby own_d18_11) rfl rfl k) ?_
  have Fv6_1 : Fld Z h2 et "java/lang/String" "value" "[B" (.ref tb) := (Fv.ext E2)
  have Fv7_1 : Arv Z h2 tb kb .byte (1 : Int32) [w0] dv := (Va.ext E2)
  have Fv8_1 : Exa Z h2 et "java/lang/String" := (Ee.ext E2)
  obtain ⟨cq5, kq5, q5a, q5b, q5c⟩ := isOf hZ eh4 Fv8_1
  obtain ⟨_, _, ⟨T5, L5, k5, n5⟩, -, X5, ⟨Lc5, hQ5, l5, y5, z5⟩, st5⟩ := X4.virtualBack hx (y := (⟨"java/lang/String", "isEmpty", "()Z"⟩ : MethodName)) (z := (⟨"java/lang/String", "isEmpty", "()Z"⟩ : MethodName)) hown (mvT hZ (hw _ (List.mem_of_getElem? (i := 127) rfl))) (mvT hZ (hw _ (List.mem_of_getElem? (i := 128) rfl))) (notFace_of_selects (args := #[]) (mvT hZ (hw _ (List.mem_of_getElem? (i := 130) rfl)))) (mvT hZ (hw _ (List.mem_of_getElem? (i := 130) rfl))) (mvT hZ (hw _ (List.mem_of_getElem? (i := 129) rfl))) (by decide) (backOf (W := 0) (own_isEmp l Z a0 hw [] et tb kb w0 dv h2 n0 (by omega) Fv6_1 Fv7_1) hZ (hw _ (List.mem_of_getElem? (i := 131) rfl)) (hw _ (List.mem_of_getElem? (i := 22) rfl)) (by decide) (by decide)) q5a q5c (g := (mkF m 12 #[.val (.ref ob), .val (.ref et), .val .null] [(.ref et)])) rfl (by rw [hml]; rfl) (Steps.refl _) (argsL := []) (rest := []) (lenOf own_pd_x28x29Z rfl) rfl (by show 2 * 0 + _ ≤ _; exact Nat.le_of_eq rfl) (hb hby own_d18_12) (fun _ _ => ⟨rfl, eh4, (by decide : 2 + 0 ≤ _), (by decide : 40 + 0 ≤ _)⟩)
  dsimp only [Pt.U, Pt.locs, Pt.cells, Pt.slots] at X5 l5 y5 z5 st5 hQ5
  subst l5 y5 z5
  obtain ⟨rfl, N5q, eh5⟩ := hQ5
  have N5 := Fr.app N4 N5q
  refine OwnFin.adv (B := T5.setTop (mkF m 15 #[.val (.ref ob), .val (.ref et), .val .null] [(.int (0 : Int32))])) (fun _ k => st5.trans k) ?_
  have hc15_9 : (0 : Int32) = (0 : Int32) := by decide
  refine OwnFin.adv (B := T5.setTop (mkF m 28 #[.val (.ref ob), .val (.ref et), .val .null] [])) (fun _ k => XS.ifYes X5.here hx rfl (pc0 := 15) (pc' := 28) rfl (hb hby own_d18_15) rfl ((if0 _ _).trans (teq hc15_9).1) (by decide) (by decide) k) ?_
  refine OwnFin.adv (B := T5.setTop (mkF m 29 #[.val (.ref ob), .val (.ref et), .val .null] [(.ref ob)])) (fun _ k => XS.aloadN X5.here hx rfl (hb hby own_d18_28) rfl rfl k) ?_
  refine OwnFin.adv (B := T5.setTop (mkF m 30 #[.val (.ref ob), .val (.ref et), .val .null] [(.ref et), (.ref ob)])) (fun _ k => XS.aloadN X5.here hx rfl (hb hby own_d18_29) rfl rfl k) ?_
  have Fv9_1 : Exa Z h2 ob "com/example/klotho/klotho/RecordedFailure" := (E.ext E2)
  have Fv10_1 : Fld Z h2 ob "com/example/klotho/klotho/RecordedFailure" "errorType" "Ljava/lang/String;" u0 := (F0.ext E2)
  obtain ⟨T11, h11, X11, e11, W11, st11⟩ := putF X5 hx hZ hown (host := "") (Or.inl (hw _ (List.mem_of_getElem? (i := 132) rfl))) Via.refl eh5 Fv10_1 Fv9_1 (Or.inr ⟨(hw _ (List.mem_of_getElem? (i := 133) rfl)), rfl, hnm⟩) (hw _ (List.mem_of_getElem? (i := 116) rfl)) (ty := (.object "java/lang/String")) (by decide) rfl rfl (g := (mkF m 30 #[.val (.ref ob), .val (.ref et), .val .null] [(.ref et), (.ref ob)])) rfl rfl (hb hby own_d18_30)
  have Fw11 : Fld Z h11 ob "com/example/klotho/klotho/RecordedFailure" "errorType" "Ljava/lang/String;" (.ref et) := Fv10_1.same W11
  have sz12 : h2.size ≤ h11.size := Nat.le_of_eq W11.size.symm
  have N11 := Fr.snoc X11 N5 (by omega : n0 ≤ ob)
  refine OwnFin.adv (B := T11.setTop (mkF m 33 #[.val (.ref ob), .val (.ref et), .val .null] [])) (fun _ k => st11 _ k) ?_
  refine OwnFin.adv (B := T11.setTop (mkF m 34 #[.val (.ref ob), .val (.ref et), .val .null] [(.ref ob)])) (fun _ k => XS.aloadN X11.here hx rfl (hb hby own_d18_33) rfl rfl k) ?_
  refine OwnFin.adv (B := T11.setTop (mkF m 35 #[.val (.ref ob), .val (.ref et), .val .null] [.null, (.ref ob)])) (fun _ k => XS.aloadN X11.here hx rfl (hb hby own_d18_34) rfl rfl k) ?_
  have Fv13_2 : Exa Z h11 ob "com/example/klotho/klotho/RecordedFailure" := (Fv9_1.wr W11)
  have Fv14_2 : Fld Z h11 ob "com/example/klotho/klotho/RecordedFailure" "message" "Ljava/lang/String;" u1 := ((F1.ext E2).other W11 (Or.inr (slot_ne (Or.inr (hw _ (List.mem_of_getElem? (i := 135) rfl))) (Or.inr (hw _ (List.mem_of_getElem? (i := 133) rfl))) (by decide) (t := (.object "java/lang/String")) (t' := (.object "java/lang/String")) (by decide) (by decide))))
  obtain ⟨T15, h15, X15, e15, W15, st15⟩ := putF X11 hx hZ hown (host := "") (Or.inl (hw _ (List.mem_of_getElem? (i := 134) rfl))) Via.refl e11 Fv14_2 Fv13_2 (Or.inr ⟨(hw _ (List.mem_of_getElem? (i := 135) rfl)), rfl, hnm⟩) (hw _ (List.mem_of_getElem? (i := 116) rfl)) (ty := (.object "java/lang/String")) (by decide) rfl rfl (g := (mkF m 35 #[.val (.ref ob), .val (.ref et), .val .null] [.null, (.ref ob)])) rfl rfl (hb hby own_d18_35)
  have Fw15 : Fld Z h15 ob "com/example/klotho/klotho/RecordedFailure" "message" "Ljava/lang/String;" .null := Fv14_2.same W15
  have sz16 : h11.size ≤ h15.size := Nat.le_of_eq W15.size.symm
  have N15 := Fr.snoc X15 N11 (by omega : n0 ≤ ob)
  refine OwnFin.adv (B := T15.setTop (mkF m 38 #[.val (.ref ob), .val (.ref et), .val .null] [])) (fun _ k => st15 _ k) ?_
  obtain ⟨fs, hr, hrun, hended, hE⟩ := X15.leaveW hS2 (by rw [e15]; omega) (v := none) (fun _ => rfl)
  refine OwnFin.leaf hP' ⟨_, _, X15.returnOut hx Bd.returns (hb hby own_d18_38) hr, hrun, hended, _, _, rfl, ?_, own_monoW hE (by decide) (by decide)⟩
  rw [show (T15.setFrames fs).heap = h15 from e15]
  exact ⟨rfl, N15, ((((Keep.refl h0 [ob]).ext E2).wr W11 (Or.inl (List.mem_of_getElem? (i := 0) rfl))).wr W15 (Or.inl (List.mem_of_getElem? (i := 0) rfl)))⟩
theorem own_d8_0 : decode prog_37_method_2_code 0 = .ok (.aload_n 0, 1) := by decide +kernel
theorem own_d8_1 : decode prog_37_method_2_code 1 = .ok (.invokespecial 1, 3) := by decide +kernel
theorem own_d8_4 : decode prog_37_method_2_code 4 = .ok (.aload_n 0, 1) := by decide +kernel
theorem own_d8_5 : decode prog_37_method_2_code 5 = .ok (.aload_n 1, 1) := by decide +kernel
theorem own_d8_6 : decode prog_37_method_2_code 6 = .ok (.putfield 7, 3) := by decide +kernel
theorem own_d8_9 : decode prog_37_method_2_code 9 = .ok (.aload_n 0, 1) := by decide +kernel
theorem own_d8_10 : decode prog_37_method_2_code 10 = .ok (.aload_n 2, 1) := by decide +kernel
theorem own_d8_11 : decode prog_37_method_2_code 11 = .ok (.putfield 13, 3) := by decide +kernel
theorem own_d8_14 : decode prog_37_method_2_code 14 = .ok (.aload_n 0, 1) := by decide +kernel
theorem own_d8_15 : decode prog_37_method_2_code 15 = .ok (.aload_n 3, 1) := by decide +kernel
theorem own_d8_16 : decode prog_37_method_2_code 16 = .ok (.putfield 17, 3) := by decide +kernel
theorem own_d8_19 : decode prog_37_method_2_code 19 = .ok (.aload_n 0, 1) := by decide +kernel
theorem own_d8_20 : decode prog_37_method_2_code 20 = .ok (.aload 4, 2) := by decide +kernel
theorem own_d8_22 : decode prog_37_method_2_code 22 = .ok (.putfield 21, 3) := by decide +kernel
theorem own_d8_25 : decode prog_37_method_2_code 25 = .ok (.aload_n 0, 1) := by decide +kernel
theorem own_d8_26 : decode prog_37_method_2_code 26 = .ok (.aload 5, 2) := by decide +kernel
theorem own_d8_28 : decode prog_37_method_2_code 28 = .ok (.putfield 25, 3) := by decide +kernel
theorem own_d8_31 : decode prog_37_method_2_code 31 = .ok (.return_, 1) := by decide +kernel
theorem own_ef_wo5 (m : MethodId) (x0 : Addr) (x1 : Addr) (x2 : Addr) (x3 : Value) (hx3 : x3.isRef = true) (x4 : Value) (hx4 : x4.isRef = true) (x5 : Value) (hx5 : x5.isRef = true) : entryFrame m #[(.ref x0), (.ref x1), (.ref x2), x3, x4, x5] 6 = mkF m 0 #[.val (.ref x0), .val (.ref x1), .val (.ref x2), .val x3, .val x4, .val x5] [] := by rcases ref_cases hx3 with rfl | ⟨_, rfl⟩ <;> rcases ref_cases hx4 with rfl | ⟨_, rfl⟩ <;> rcases ref_cases hx5 with rfl | ⟨_, rfl⟩ <;> first | (simp [entryFrame, mkF, argsToLocals, Value.category]; done) | rfl
theorem own_pn_com_example_klotho_klotho_WorkflowOutcome : plainName "com/example/klotho/klotho/WorkflowOutcome" = true := by first | (simp [plainName, overriddenIn]; done) | decide +kernel
def own_Q_wo5 (Z : State) (ob aid ast : Addr) (rs fl rf : Value) (hr_rs : rs.isRef = true) (hr_fl : fl.isRef = true) (hr_rf : rf.isRef = true) (u0 u1 u2 u3 u4 : Value) (h0 : Heap) (n0 : Nat) (v : Option Value) (h : Heap) (L : List Loc) : Prop := v = none ∧ Fr n0 L ∧ Keep h0 h [ob] ∧ Fld Z h ob "com/example/klotho/klotho/WorkflowOutcome" "refusal" "Ljava/lang/String;" rf
set_option maxRecDepth 65536 in
set_option maxHeartbeats 40000000 in
theorem own_wo5 (l : Launch) (Z : State) (a0 : Array Value) (hw : ∀ d ∈ tables_1, d.before a0 Z = true) (ws : List Jvm.Cond) (ob aid ast : Addr) (rs fl rf : Value) (hr_rs : rs.isRef = true) (hr_fl : fl.isRef = true) (hr_rf : rf.isRef = true) (u0 u1 u2 u3 u4 : Value) (h0 : Heap) (n0 : Nat) (Z0 : n0 ≤ h0.size) (E : Exa Z h0 ob "com/example/klotho/klotho/WorkflowOutcome") (F0 : Fld Z h0 ob "com/example/klotho/klotho/WorkflowOutcome" "instanceId" "Ljava/lang/String;" u0) (F1 : Fld Z h0 ob "com/example/klotho/klotho/WorkflowOutcome" "status" "Lcom/example/klotho/klotho/InstanceStatus;" u1) (F2 : Fld Z h0 ob "com/example/klotho/klotho/WorkflowOutcome" "result" "Ljava/lang/Object;" u2) (F3 : Fld Z h0 ob "com/example/klotho/klotho/WorkflowOutcome" "failure" "Lcom/example/klotho/klotho/RecordedFailure;" u3) (F4 : Fld Z h0 ob "com/example/klotho/klotho/WorkflowOutcome" "refusal" "Ljava/lang/String;" u4) (g_ob : n0 ≤ ob) :
    MetFree l (⟨"com/example/klotho/klotho/WorkflowOutcome", "<init>", "(Ljava/lang/String;Lcom/example/klotho/klotho/InstanceStatus;Ljava/lang/Object;Lcom/example/klotho/klotho/RecordedFailure;Ljava/lang/String;)V"⟩ : MethodName) (head1 (Jvm.Cond.code (⟨"com/example/klotho/klotho/WorkflowOutcome", "<init>", "(Ljava/lang/String;Lcom/example/klotho/klotho/InstanceStatus;Ljava/lang/Object;Lcom/example/klotho/klotho/RecordedFailure;Ljava/lang/String;)V"⟩ : MethodName) prog_37_method_2_code 6 none :: ws) ({ frames := 2, cells := 0, slots := 0, locals := 24 } : Room)) (fun A0 U0 => A0 = #[(.ref ob), (.ref aid), (.ref ast), rs, fl, rf] ∧ Z.Warmed39 U0.vm ∧ U0.heap = h0) (fun _ _ _ _ _ => True) (fun _ U0 o0 U1 => ∃ v0 L0, o0 = .returned v0 ∧ own_Q_wo5 Z ob aid ast rs fl rf hr_rs hr_fl hr_rf u0 u1 u2 u3 u4 h0 n0 v0 U1.heap L0 ∧ FrameEnd U0 o0 U1 L0 ({ frames := 2, cells := 0, slots := 0, locals := 24 } : Room).cells ({ frames := 2, cells := 0, slots := 0, locals := 24 } : Room).slots) := by
  refine MetFree.of_bodySF (plainFor_of_name own_pn_com_example_klotho_klotho_WorkflowOutcome) hisR ?_
  intro p e s m args below meth c s₁ Bd hml0 hP hK
  obtain ⟨rfl, hZ, hh⟩ := hP
  have hx := Bd.exec
  have hby := Bd.bytes
  have hml : c.maxLocals = 6 := hml0
  have hown : s.vm.findClass "com/example/klotho/klotho/WorkflowOutcome" = some m.cls := findClass_of_methodNamed Bd.named
  have hnm := (name_of_methodNamed Bd.named Bd.method).1
  have X0 : Stand p l e ({ frames := 2, cells := 0, slots := 0, locals := 24 } : Room) s m #[(.ref ob), (.ref aid), (.ref ast), rs, fl, rf] below meth c s₁ [] 0 0 := Stand.of_body Bd
  have e0 : s₁.heap = h0 := by rw [← hh, Bd.state]; rfl
  have N0 := Fr.nil n0
  refine OwnFin.entry (own_ef_wo5 m ob aid ast rs hr_rs fl hr_fl rf hr_rf) (fun P' hP' => ?_)
  refine OwnFin.adv (B := s₁.setTop (mkF m 1 #[.val (.ref ob), .val (.ref aid), .val (.ref ast), .val rs, .val fl, .val rf] [(.ref ob)])) (fun _ k => XS.aloadN X0.here hx rfl (hb hby own_d8_0) rfl rfl k) ?_
  obtain ⟨_, _, ⟨T1, L1, k1, n1⟩, -, X1, ⟨Lc1, hQ1, l1, y1, z1⟩, st1⟩ := X0.specialBack hx (y := (⟨"java/lang/Record", "<init>", "()V"⟩ : MethodName)) rfl hown (mvT hZ (hw _ (List.mem_of_getElem? (i := 63) rfl))) (mvT hZ (hw _ (List.mem_of_getElem? (i := 64) rfl))) (mvT hZ (hw _ (List.mem_of_getElem? (i := 67) rfl))) (by decide) (backOf (W := 0) (own_recInit l Z a0 hw [] ob h0 n0 (by omega)) hZ (hw _ (List.mem_of_getElem? (i := 67) rfl)) (hw _ (List.mem_of_getElem? (i := 66) rfl)) (by decide) (by decide)) (g := (mkF m 1 #[.val (.ref ob), .val (.ref aid), .val (.ref ast), .val rs, .val fl, .val rf] [(.ref ob)])) rfl (by rw [hml]; rfl) (Steps.refl _) (a := ob) (argsL := []) (rest := []) (lenOf own_pd_x28x29V rfl) rfl (by show 2 * 0 + _ ≤ _; exact Nat.le_of_eq rfl) (hb hby own_d8_1) (fun _ _ => ⟨rfl, e0, (by decide : 0 + 0 ≤ _), (by decide : 0 + 0 ≤ _)⟩)
  dsimp only [Pt.U, Pt.locs, Pt.cells, Pt.slots] at X1 l1 y1 z1 st1 hQ1
  subst l1 y1 z1
  obtain ⟨rfl, N1q, eh1⟩ := hQ1
  have N1 := Fr.app N0 N1q
  refine OwnFin.adv (B := T1.setTop (mkF m 4 #[.val (.ref ob), .val (.ref aid), .val (.ref ast), .val rs, .val fl, .val rf] [])) (fun _ k => st1.trans k) ?_
  refine OwnFin.adv (B := T1.setTop (mkF m 5 #[.val (.ref ob), .val (.ref aid), .val (.ref ast), .val rs, .val fl, .val rf] [(.ref ob)])) (fun _ k => XS.aloadN X1.here hx rfl (hb hby own_d8_4) rfl rfl k) ?_
  refine OwnFin.adv (B := T1.setTop (mkF m 6 #[.val (.ref ob), .val (.ref aid), .val (.ref ast), .val rs, .val fl, .val rf] [(.ref aid), (.ref ob)])) (fun _ k => XS.aloadN X1.here hx rfl (hb hby own_d8_5) rfl rfl k) ?_
  obtain ⟨T2, h2, X2, e2, W2, st2⟩ := putF X1 hx hZ hown (host := "") (Or.inl (hw _ (List.mem_of_getElem? (i := 69) rfl))) Via.refl eh1 F0 E (Or.inr ⟨(hw _ (List.mem_of_getElem? (i := 70) rfl)), rfl, hnm⟩) (hw _ (List.mem_of_getElem? (i := 43) rfl)) (ty := (.object "java/lang/String")) (by decide) rfl rfl (g := (mkF m 6 #[.val (.ref ob), .val (.ref aid), .val (.ref ast), .val rs, .val fl, .val rf] [(.ref aid), (.ref ob)])) rfl rfl (hb hby own_d8_6)
  have Fw2 : Fld Z h2 ob "com/example/klotho/klotho/WorkflowOutcome" "instanceId" "Ljava/lang/String;" (.ref aid) := F0.same W2
  have sz3 : h0.size ≤ h2.size := Nat.le_of_eq W2.size.symm
  have N2 := Fr.snoc X2 N1 (by omega : n0 ≤ ob)
  refine OwnFin.adv (B := T2.setTop (mkF m 9 #[.val (.ref ob), .val (.ref aid), .val (.ref ast), .val rs, .val fl, .val rf] [])) (fun _ k => st2 _ k) ?_
  refine OwnFin.adv (B := T2.setTop (mkF m 10 #[.val (.ref ob), .val (.ref aid), .val (.ref ast), .val rs, .val fl, .val rf] [(.ref ob)])) (fun _ k => XS.aloadN X2.here hx rfl (hb hby own_d8_9) rfl rfl k) ?_
  refine OwnFin.adv (B := T2.setTop (mkF m 11 #[.val (.ref ob), .val (.ref aid), .val (.ref ast), .val rs, .val fl, .val rf] [(.ref ast), (.ref ob)])) (fun _ k => XS.aloadN X2.here hx rfl (hb hby own_d8_10) rfl rfl k) ?_
  have Fv4_1 : Exa Z h2 ob "com/example/klotho/klotho/WorkflowOutcome" := (E.wr W2)
  have Fv5_1 : Fld Z h2 ob "com/example/klotho/klotho/WorkflowOutcome" "status" "Lcom/example/klotho/klotho/InstanceStatus;" u1 := (F1.other W2 (Or.inr (slot_ne (Or.inr (hw _ (List.mem_of_getElem? (i := 72) rfl))) (Or.inr (hw _ (List.mem_of_getElem? (i := 70) rfl))) (by decide) (t := (.object "com/example/klotho/klotho/InstanceStatus")) (t' := (.object "java/lang/String")) (by decide) (by decide))))
  obtain ⟨T6, h6, X6, e6, W6, st6⟩ := putF X2 hx hZ hown (host := "") (Or.inl (hw _ (List.mem_of_getElem? (i := 71) rfl))) Via.refl e2 Fv5_1 Fv4_1 (Or.inr ⟨(hw _ (List.mem_of_getElem? (i := 72) rfl)), rfl, hnm⟩) (hw _ (List.mem_of_getElem? (i := 43) rfl)) (ty := (.object "com/example/klotho/klotho/InstanceStatus")) (by decide) rfl rfl (g := (mkF m 11 #[.val (.ref ob), .val (.ref aid), .val (.ref ast), .val rs, .val fl, .val rf] [(.ref ast), (.ref ob)])) rfl rfl (hb hby own_d8_11)
  have Fw6 : Fld Z h6 ob "com/example/klotho/klotho/WorkflowOutcome" "status" "Lcom/example/klotho/klotho/InstanceStatus;" (.ref ast) := Fv5_1.same W6
  have sz7 : h2.size ≤ h6.size := Nat.le_of_eq W6.size.symm
  have N6 := Fr.snoc X6 N2 (by omega : n0 ≤ ob)
  refine OwnFin.adv (B := T6.setTop (mkF m 14 #[.val (.ref ob), .val (.ref aid), .val (.ref ast), .val rs, .val fl, .val rf] [])) (fun _ k => st6 _ k) ?_
  refine OwnFin.adv (B := T6.setTop (mkF m 15 #[.val (.ref ob), .val (.ref aid), .val (.ref ast), .val rs, .val fl, .val rf] [(.ref ob)])) (fun _ k => XS.aloadN X6.here hx rfl (hb hby own_d8_14) rfl rfl k) ?_
  refine OwnFin.adv (B := T6.setTop (mkF m 16 #[.val (.ref ob), .val (.ref aid), .val (.ref ast), .val rs, .val fl, .val rf] [rs, (.ref ob)])) (fun _ k => XS.aloadN X6.here hx rfl (hb hby own_d8_15) rfl hr_rs k) ?_
  have Fv8_2 : Exa Z h6 ob "com/example/klotho/klotho/WorkflowOutcome" := (Fv4_1.wr W6)
  have Fv9_2 : Fld Z h6 ob "com/example/klotho/klotho/WorkflowOutcome" "result" "Ljava/lang/Object;" u2 := ((F2.other W2 (Or.inr (slot_ne (Or.inr (hw _ (List.mem_of_getElem? (i := 74) rfl))) (Or.inr (hw _ (List.mem_of_getElem? (i := 70) rfl))) (by decide) (t := (.object "java/lang/Object")) (t' := (.object "java/lang/String")) (by decide) (by decide)))).other W6 (Or.inr (slot_ne (Or.inr (hw _ (List.mem_of_getElem? (i := 74) rfl))) (Or.inr (hw _ (List.mem_of_getElem? (i := 72) rfl))) (by decide) (t := (.object "java/lang/Object")) (t' := (.object "com/example/klotho/klotho/InstanceStatus")) (by decide) (by decide))))
  obtain ⟨T10, h10, X10, e10, W10, st10⟩ := putF X6 hx hZ hown (host := "") (Or.inl (hw _ (List.mem_of_getElem? (i := 73) rfl))) Via.refl e6 Fv9_2 Fv8_2 (Or.inr ⟨(hw _ (List.mem_of_getElem? (i := 74) rfl)), rfl, hnm⟩) (hw _ (List.mem_of_getElem? (i := 43) rfl)) (ty := (.object "java/lang/Object")) (by decide) (by rcases ref_cases hr_rs with rfl | ⟨_, rfl⟩ <;> rfl) (by rcases ref_cases hr_rs with rfl | ⟨_, rfl⟩ <;> rfl) (g := (mkF m 16 #[.val (.ref ob), .val (.ref aid), .val (.ref ast), .val rs, .val fl, .val rf] [rs, (.ref ob)])) rfl rfl (hb hby own_d8_16)
  have Fw10 : Fld Z h10 ob "com/example/klotho/klotho/WorkflowOutcome" "result" "Ljava/lang/Object;" rs := Fv9_2.same W10
  have sz11 : h6.size ≤ h10.size := Nat.le_of_eq W10.size.symm
  have N10 := Fr.snoc X10 N6 (by omega : n0 ≤ ob)
  refine OwnFin.adv (B := T10.setTop (mkF m 19 #[.val (.ref ob), .val (.ref aid), .val (.ref ast), .val rs, .val fl, .val rf] [])) (fun _ k => st10 _ k) ?_
  refine OwnFin.adv (B := T10.setTop (mkF m 20 #[.val (.ref ob), .val (.ref aid), .val (.ref ast), .val rs, .val fl, .val rf] [(.ref ob)])) (fun _ k => XS.aloadN X10.here hx rfl (hb hby own_d8_19) rfl rfl k) ?_
  refine OwnFin.adv (B := T10.setTop (mkF m 22 #[.val (.ref ob), .val (.ref aid), .val (.ref ast), .val rs, .val fl, .val rf] [fl, (.ref ob)])) (fun _ k => XS.aload X10.here hx rfl (hb hby own_d8_20) rfl hr_fl k) ?_
  have Fv12_3 : Exa Z h10 ob "com/example/klotho/klotho/WorkflowOutcome" := (Fv8_2.wr W10)
  have Fv13_3 : Fld Z h10 ob "com/example/klotho/klotho/WorkflowOutcome" "failure" "Lcom/example/klotho/klotho/RecordedFailure;" u3 := (((F3.other W2 (Or.inr (slot_ne (Or.inr (hw _ (List.mem_of_getElem? (i := 76) rfl))) (Or.inr (hw _ (List.mem_of_getElem? (i := 70) rfl))) (by decide) (t := (.object "com/example/klotho/klotho/RecordedFailure")) (t' := (.object "java/lang/String")) (by decide) (by decide)))).other W6 (Or.inr (slot_ne (Or.inr (hw _ (List.mem_of_getElem? (i := 76) rfl))) (Or.inr (hw _ (List.mem_of_getElem? (i := 72) rfl))) (by decide) (t := (.object "com/example/klotho/klotho/RecordedFailure")) (t' := (.object "com/example/klotho/klotho/InstanceStatus")) (by decide) (by decide)))).other W10 (Or.inr (slot_ne (Or.inr (hw _ (List.mem_of_getElem? (i := 76) rfl))) (Or.inr (hw _ (List.mem_of_getElem? (i := 74) rfl))) (by decide) (t := (.object "com/example/klotho/klotho/RecordedFailure")) (t' := (.object "java/lang/Object")) (by decide) (by decide))))
  obtain ⟨T14, h14, X14, e14, W14, st14⟩ := putF X10 hx hZ hown (host := "") (Or.inl (hw _ (List.mem_of_getElem? (i := 75) rfl))) Via.refl e10 Fv13_3 Fv12_3 (Or.inr ⟨(hw _ (List.mem_of_getElem? (i := 76) rfl)), rfl, hnm⟩) (hw _ (List.mem_of_getElem? (i := 43) rfl)) (ty := (.object "com/example/klotho/klotho/RecordedFailure")) (by decide) (by rcases ref_cases hr_fl with rfl | ⟨_, rfl⟩ <;> rfl) (by rcases ref_cases hr_fl with rfl | ⟨_, rfl⟩ <;> rfl) (g := (mkF m 22 #[.val (.ref ob), .val (.ref aid), .val (.ref ast), .val rs, .val fl, .val rf] [fl, (.ref ob)])) rfl rfl (hb hby own_d8_22)
  have Fw14 : Fld Z h14 ob "com/example/klotho/klotho/WorkflowOutcome" "failure" "Lcom/example/klotho/klotho/RecordedFailure;" fl := Fv13_3.same W14
  have sz15 : h10.size ≤ h14.size := Nat.le_of_eq W14.size.symm
  have N14 := Fr.snoc X14 N10 (by omega : n0 ≤ ob)
  refine OwnFin.adv (B := T14.setTop (mkF m 25 #[.val (.ref ob), .val (.ref aid), .val (.ref ast), .val rs, .val fl, .val rf] [])) (fun _ k => st14 _ k) ?_
  refine OwnFin.adv (B := T14.setTop (mkF m 26 #[.val (.ref ob), .val (.ref aid), .val (.ref ast), .val rs, .val fl, .val rf] [(.ref ob)])) (fun _ k => XS.aloadN X14.here hx rfl (hb hby own_d8_25) rfl rfl k) ?_
  refine OwnFin.adv (B := T14.setTop (mkF m 28 #[.val (.ref ob), .val (.ref aid), .val (.ref ast), .val rs, .val fl, .val rf] [rf, (.ref ob)])) (fun _ k => XS.aload X14.here hx rfl (hb hby own_d8_26) rfl hr_rf k) ?_
  have Fv16_4 : Exa Z h14 ob "com/example/klotho/klotho/WorkflowOutcome" := (Fv12_3.wr W14)
  have Fv17_4 : Fld Z h14 ob "com/example/klotho/klotho/WorkflowOutcome" "refusal" "Ljava/lang/String;" u4 := ((((F4.other W2 (Or.inr (slot_ne (Or.inr (hw _ (List.mem_of_getElem? (i := 78) rfl))) (Or.inr (hw _ (List.mem_of_getElem? (i := 70) rfl))) (by decide) (t := (.object "java/lang/String")) (t' := (.object "java/lang/String")) (by decide) (by decide)))).other W6 (Or.inr (slot_ne (Or.inr (hw _ (List.mem_of_getElem? (i := 78) rfl))) (Or.inr (hw _ (List.mem_of_getElem? (i := 72) rfl))) (by decide) (t := (.object "java/lang/String")) (t' := (.object "com/example/klotho/klotho/InstanceStatus")) (by decide) (by decide)))).other W10 (Or.inr (slot_ne (Or.inr (hw _ (List.mem_of_getElem? (i := 78) rfl))) (Or.inr (hw _ (List.mem_of_getElem? (i := 74) rfl))) (by decide) (t := (.object "java/lang/String")) (t' := (.object "java/lang/Object")) (by decide) (by decide)))).other W14 (Or.inr (slot_ne (Or.inr (hw _ (List.mem_of_getElem? (i := 78) rfl))) (Or.inr (hw _ (List.mem_of_getElem? (i := 76) rfl))) (by decide) (t := (.object "java/lang/String")) (t' := (.object "com/example/klotho/klotho/RecordedFailure")) (by decide) (by decide))))
  obtain ⟨T18, h18, X18, e18, W18, st18⟩ := putF X14 hx hZ hown (host := "") (Or.inl (hw _ (List.mem_of_getElem? (i := 77) rfl))) Via.refl e14 Fv17_4 Fv16_4 (Or.inr ⟨(hw _ (List.mem_of_getElem? (i := 78) rfl)), rfl, hnm⟩) (hw _ (List.mem_of_getElem? (i := 43) rfl)) (ty := (.object "java/lang/String")) (by decide) (by rcases ref_cases hr_rf with rfl | ⟨_, rfl⟩ <;> rfl) (by rcases ref_cases hr_rf with rfl | ⟨_, rfl⟩ <;> rfl) (g := (mkF m 28 #[.val (.ref ob), .val (.ref aid), .val (.ref ast), .val rs, .val fl, .val rf] [rf, (.ref ob)])) rfl rfl (hb hby own_d8_28)
  have Fw18 : Fld Z h18 ob "com/example/klotho/klotho/WorkflowOutcome" "refusal" "Ljava/lang/String;" rf := Fv17_4.same W18
  have sz19 : h14.size ≤ h18.size := Nat.le_of_eq W18.size.symm
  have N18 := Fr.snoc X18 N14 (by omega : n0 ≤ ob)
  refine OwnFin.adv (B := T18.setTop (mkF m 31 #[.val (.ref ob), .val (.ref aid), .val (.ref ast), .val rs, .val fl, .val rf] [])) (fun _ k => st18 _ k) ?_
  obtain ⟨fs, hr, hrun, hended, hW, hsame⟩ := X18.leave (v := none) (fun _ => rfl)
  refine OwnFin.leaf hP' ⟨_, _, X18.returnOut hx Bd.returns (hb hby own_d8_31) hr, hrun, hended, _, _, rfl, ?_, ⟨_, rfl⟩, hW, hsame.mono (by decide) (by decide)⟩
  rw [show (T18.setFrames fs).heap = h18 from e18]
  exact ⟨rfl, N18, ((((((Keep.refl h0 [ob]).wr W2 (Or.inl (List.mem_of_getElem? (i := 0) rfl))).wr W6 (Or.inl (List.mem_of_getElem? (i := 0) rfl))).wr W10 (Or.inl (List.mem_of_getElem? (i := 0) rfl))).wr W14 (Or.inl (List.mem_of_getElem? (i := 0) rfl))).wr W18 (Or.inl (List.mem_of_getElem? (i := 0) rfl))), Fw18⟩
theorem own_d14_0 : decode prog_37_method_1_code 0 = .ok (.aload_n 0, 1) := by decide +kernel
theorem own_d14_1 : decode prog_37_method_1_code 1 = .ok (.aload_n 1, 1) := by decide +kernel
theorem own_d14_2 : decode prog_37_method_1_code 2 = .ok (.aload_n 2, 1) := by decide +kernel
theorem own_d14_3 : decode prog_37_method_1_code 3 = .ok (.aload_n 3, 1) := by decide +kernel
theorem own_d14_4 : decode prog_37_method_1_code 4 = .ok (.aload 4, 2) := by decide +kernel
theorem own_d14_6 : decode prog_37_method_1_code 6 = .ok (.aconst_null, 1) := by decide +kernel
theorem own_pd_x28Ljavax2flangx2fStringx3bLcomx2fexamplex2fklothox2fklothox2fInstanceStatusx3bLjavax2flangx2fObjectx3bLcomx2fexamplex2fklothox2fklothox2fRecordedFailurex3bLjavax2flangx2fStringx3bx29V : parseMethodDescriptor "(Ljava/lang/String;Lcom/example/klotho/klotho/InstanceStatus;Ljava/lang/Object;Lcom/example/klotho/klotho/RecordedFailure;Ljava/lang/String;)V" = some ⟨[(.object "java/lang/String"), (.object "com/example/klotho/klotho/InstanceStatus"), (.object "java/lang/Object"), (.object "com/example/klotho/klotho/RecordedFailure"), (.object "java/lang/String")], none⟩ := by decide +kernel
theorem own_d14_7 : decode prog_37_method_1_code 7 = .ok (.invokespecial 28, 3) := by decide +kernel
theorem own_d14_10 : decode prog_37_method_1_code 10 = .ok (.return_, 1) := by decide +kernel
theorem own_ef_wo4 (m : MethodId) (x0 : Addr) (x1 : Addr) (x2 : Addr) (x3 : Value) (hx3 : x3.isRef = true) (x4 : Value) (hx4 : x4.isRef = true) : entryFrame m #[(.ref x0), (.ref x1), (.ref x2), x3, x4] 5 = mkF m 0 #[.val (.ref x0), .val (.ref x1), .val (.ref x2), .val x3, .val x4] [] := by rcases ref_cases hx3 with rfl | ⟨_, rfl⟩ <;> rcases ref_cases hx4 with rfl | ⟨_, rfl⟩ <;> first | (simp [entryFrame, mkF, argsToLocals, Value.category]; done) | rfl
def own_Q_wo4 (Z : State) (ob aid ast : Addr) (rs fl : Value) (hr_rs : rs.isRef = true) (hr_fl : fl.isRef = true) (u0 u1 u2 u3 u4 : Value) (h0 : Heap) (n0 : Nat) (v : Option Value) (h : Heap) (L : List Loc) : Prop := v = none ∧ Fr n0 L ∧ Keep h0 h [ob] ∧ Fld Z h ob "com/example/klotho/klotho/WorkflowOutcome" "refusal" "Ljava/lang/String;" .null
set_option maxRecDepth 65536 in
set_option maxHeartbeats 40000000 in
theorem own_wo4 (l : Launch) (Z : State) (a0 : Array Value) (hw : ∀ d ∈ tables_1, d.before a0 Z = true) (ws : List Jvm.Cond) (ob aid ast : Addr) (rs fl : Value) (hr_rs : rs.isRef = true) (hr_fl : fl.isRef = true) (u0 u1 u2 u3 u4 : Value) (h0 : Heap) (n0 : Nat) (Z0 : n0 ≤ h0.size) (E : Exa Z h0 ob "com/example/klotho/klotho/WorkflowOutcome") (F0 : Fld Z h0 ob "com/example/klotho/klotho/WorkflowOutcome" "instanceId" "Ljava/lang/String;" u0) (F1 : Fld Z h0 ob "com/example/klotho/klotho/WorkflowOutcome" "status" "Lcom/example/klotho/klotho/InstanceStatus;" u1) (F2 : Fld Z h0 ob "com/example/klotho/klotho/WorkflowOutcome" "result" "Ljava/lang/Object;" u2) (F3 : Fld Z h0 ob "com/example/klotho/klotho/WorkflowOutcome" "failure" "Lcom/example/klotho/klotho/RecordedFailure;" u3) (F4 : Fld Z h0 ob "com/example/klotho/klotho/WorkflowOutcome" "refusal" "Ljava/lang/String;" u4) (g_ob : n0 ≤ ob) :
    MetFree l (⟨"com/example/klotho/klotho/WorkflowOutcome", "<init>", "(Ljava/lang/String;Lcom/example/klotho/klotho/InstanceStatus;Ljava/lang/Object;Lcom/example/klotho/klotho/RecordedFailure;)V"⟩ : MethodName) (head1 (Jvm.Cond.code (⟨"com/example/klotho/klotho/WorkflowOutcome", "<init>", "(Ljava/lang/String;Lcom/example/klotho/klotho/InstanceStatus;Ljava/lang/Object;Lcom/example/klotho/klotho/RecordedFailure;)V"⟩ : MethodName) prog_37_method_1_code 5 none :: ws) ({ frames := 3, cells := 0, slots := 0, locals := 41 } : Room)) (fun A0 U0 => A0 = #[(.ref ob), (.ref aid), (.ref ast), rs, fl] ∧ Z.Warmed39 U0.vm ∧ U0.heap = h0) (fun _ _ _ _ _ => True) (fun _ U0 o0 U1 => ∃ v0 L0, o0 = .returned v0 ∧ own_Q_wo4 Z ob aid ast rs fl hr_rs hr_fl u0 u1 u2 u3 u4 h0 n0 v0 U1.heap L0 ∧ FrameEnd U0 o0 U1 L0 ({ frames := 3, cells := 0, slots := 0, locals := 41 } : Room).cells ({ frames := 3, cells := 0, slots := 0, locals := 41 } : Room).slots) := by
  refine MetFree.of_bodySF (plainFor_of_name own_pn_com_example_klotho_klotho_WorkflowOutcome) hisR ?_
  intro p e s m args below meth c s₁ Bd hml0 hP hK
  obtain ⟨rfl, hZ, hh⟩ := hP
  have hx := Bd.exec
  have hby := Bd.bytes
  have hml : c.maxLocals = 5 := hml0
  have hown : s.vm.findClass "com/example/klotho/klotho/WorkflowOutcome" = some m.cls := findClass_of_methodNamed Bd.named
  have hnm := (name_of_methodNamed Bd.named Bd.method).1
  have X0 : Stand p l e ({ frames := 3, cells := 0, slots := 0, locals := 41 } : Room) s m #[(.ref ob), (.ref aid), (.ref ast), rs, fl] below meth c s₁ [] 0 0 := Stand.of_body Bd
  have e0 : s₁.heap = h0 := by rw [← hh, Bd.state]; rfl
  have N0 := Fr.nil n0
  refine OwnFin.entry (own_ef_wo4 m ob aid ast rs hr_rs fl hr_fl) (fun P' hP' => ?_)
  refine OwnFin.adv (B := s₁.setTop (mkF m 1 #[.val (.ref ob), .val (.ref aid), .val (.ref ast), .val rs, .val fl] [(.ref ob)])) (fun _ k => XS.aloadN X0.here hx rfl (hb hby own_d14_0) rfl rfl k) ?_
  refine OwnFin.adv (B := s₁.setTop (mkF m 2 #[.val (.ref ob), .val (.ref aid), .val (.ref ast), .val rs, .val fl] [(.ref aid), (.ref ob)])) (fun _ k => XS.aloadN X0.here hx rfl (hb hby own_d14_1) rfl rfl k) ?_
  refine OwnFin.adv (B := s₁.setTop (mkF m 3 #[.val (.ref ob), .val (.ref aid), .val (.ref ast), .val rs, .val fl] [(.ref ast), (.ref aid), (.ref ob)])) (fun _ k => XS.aloadN X0.here hx rfl (hb hby own_d14_2) rfl rfl k) ?_
  refine OwnFin.adv (B := s₁.setTop (mkF m 4 #[.val (.ref ob), .val (.ref aid), .val (.ref ast), .val rs, .val fl] [rs, (.ref ast), (.ref aid), (.ref ob)])) (fun _ k => XS.aloadN X0.here hx rfl (hb hby own_d14_3) rfl hr_rs k) ?_
  refine OwnFin.adv (B := s₁.setTop (mkF m 6 #[.val (.ref ob), .val (.ref aid), .val (.ref ast), .val rs, .val fl] [fl, rs, (.ref ast), (.ref aid), (.ref ob)])) (fun _ k => XS.aload X0.here hx rfl (hb hby own_d14_4) rfl hr_fl k) ?_
  refine OwnFin.adv (B := s₁.setTop (mkF m 7 #[.val (.ref ob), .val (.ref aid), .val (.ref ast), .val rs, .val fl] [.null, fl, rs, (.ref ast), (.ref aid), (.ref ob)])) (fun _ k => XS.aconstNull X0.here hx rfl (hb hby own_d14_6) k) ?_
  obtain ⟨_, _, ⟨T1, L1, k1, n1⟩, -, X1, ⟨Lc1, hQ1, l1, y1, z1⟩, st1⟩ := X0.specialBack hx (y := (⟨"com/example/klotho/klotho/WorkflowOutcome", "<init>", "(Ljava/lang/String;Lcom/example/klotho/klotho/InstanceStatus;Ljava/lang/Object;Lcom/example/klotho/klotho/RecordedFailure;Ljava/lang/String;)V"⟩ : MethodName)) rfl hown (mvT hZ (hw _ (List.mem_of_getElem? (i := 104) rfl))) (mvT hZ (hw _ (List.mem_of_getElem? (i := 61) rfl))) (mvT hZ (hw _ (List.mem_of_getElem? (i := 62) rfl))) (by decide) (backOf (W := 0) (own_wo5 l Z a0 hw [] ob aid ast rs fl .null hr_rs hr_fl rfl _ _ _ _ _ h0 n0 (by omega) E F0 F1 F2 F3 F4 (by omega)) hZ (hw _ (List.mem_of_getElem? (i := 62) rfl)) (hw _ (List.mem_of_getElem? (i := 44) rfl)) (by decide) (by decide)) (g := (mkF m 7 #[.val (.ref ob), .val (.ref aid), .val (.ref ast), .val rs, .val fl] [.null, fl, rs, (.ref ast), (.ref aid), (.ref ob)])) rfl (by rw [hml]; rfl) (Steps.refl _) (a := ob) (argsL := [(.ref aid), (.ref ast), rs, fl, .null]) (rest := []) (lenOf own_pd_x28Ljavax2flangx2fStringx3bLcomx2fexamplex2fklothox2fklothox2fInstanceStatusx3bLjavax2flangx2fObjectx3bLcomx2fexamplex2fklothox2fklothox2fRecordedFailurex3bLjavax2flangx2fStringx3bx29V rfl) rfl (by show 2 * 0 + _ ≤ _; exact Nat.le_of_eq rfl) (hb hby own_d14_7) (fun _ _ => ⟨rfl, e0, (by decide : 0 + 0 ≤ _), (by decide : 0 + 0 ≤ _)⟩)
  dsimp only [Pt.U, Pt.locs, Pt.cells, Pt.slots] at X1 l1 y1 z1 st1 hQ1
  subst l1 y1 z1
  obtain ⟨rfl, N1q, K1, Fr1⟩ := hQ1
  have N1 := Fr.app N0 N1q
  have sz2 : h0.size ≤ T1.heap.size := K1.1
  refine OwnFin.adv (B := T1.setTop (mkF m 10 #[.val (.ref ob), .val (.ref aid), .val (.ref ast), .val rs, .val fl] [])) (fun _ k => st1.trans k) ?_
  obtain ⟨fs, hr, hrun, hended, hW, hsame⟩ := X1.leave (v := none) (fun _ => rfl)
  refine OwnFin.leaf hP' ⟨_, _, X1.returnOut hx Bd.returns (hb hby own_d14_10) hr, hrun, hended, _, _, rfl, ?_, ⟨_, rfl⟩, hW, hsame.mono (by decide) (by decide)⟩
  rw [show (T1.setFrames fs).heap = T1.heap from rfl]
  exact ⟨rfl, N1, ((Keep.refl h0 [ob]).trans K1 (allS (Or.inl (List.mem_of_getElem? (i := 0) rfl)) all0)), Fr1⟩
theorem own_d10_0 : decode prog_37_method_3_code 0 = .ok (.aload_n 0, 1) := by decide +kernel
theorem own_d10_1 : decode prog_37_method_3_code 1 = .ok (.getfield 25, 3) := by decide +kernel
theorem own_d10_4 : decode prog_37_method_3_code 4 = .ok (.ifnull 7, 3) := by decide +kernel
theorem own_d10_11 : decode prog_37_method_3_code 11 = .ok (.iconst 0, 1) := by decide +kernel
theorem own_d10_12 : decode prog_37_method_3_code 12 = .ok (.ireturn, 1) := by decide +kernel
theorem own_ef_refN (m : MethodId) (x0 : Addr) : entryFrame m #[(.ref x0)] 1 = mkF m 0 #[.val (.ref x0)] [] := by first | (simp [entryFrame, mkF, argsToLocals, Value.category]; done) | rfl
def own_Q_refN (Z : State) (ob : Addr) (h0 : Heap) (n0 : Nat) (v : Option Value) (h : Heap) (L : List Loc) : Prop := v = some (.int (0 : Int32)) ∧ Fr n0 L ∧ h = h0
set_option maxRecDepth 65536 in
set_option maxHeartbeats 40000000 in
theorem own_refN (l : Launch) (Z : State) (a0 : Array Value) (hw : ∀ d ∈ tables_1, d.before a0 Z = true) (ws : List Jvm.Cond) (ob : Addr) (h0 : Heap) (n0 : Nat) (Z0 : n0 ≤ h0.size) (F : Fld Z h0 ob "com/example/klotho/klotho/WorkflowOutcome" "refusal" "Ljava/lang/String;" .null) :
    MetFree l (⟨"com/example/klotho/klotho/WorkflowOutcome", "isRefused", "()Z"⟩ : MethodName) (head1 (Jvm.Cond.code (⟨"com/example/klotho/klotho/WorkflowOutcome", "isRefused", "()Z"⟩ : MethodName) prog_37_method_3_code 1 (some .boolean) :: ws) ({ frames := 0, cells := 0, slots := 0, locals := 0 } : Room)) (fun A0 U0 => A0 = #[(.ref ob)] ∧ Z.Warmed39 U0.vm ∧ U0.heap = h0) (fun _ _ _ _ _ => True) (fun _ U0 o0 U1 => ∃ v0 L0, o0 = .returned v0 ∧ own_Q_refN Z ob h0 n0 v0 U1.heap L0 ∧ FrameEnd U0 o0 U1 L0 ({ frames := 0, cells := 0, slots := 0, locals := 0 } : Room).cells ({ frames := 0, cells := 0, slots := 0, locals := 0 } : Room).slots) := by
  refine MetFree.of_bodySF (plainFor_of_name own_pn_com_example_klotho_klotho_WorkflowOutcome) hisR ?_
  intro p e s m args below meth c s₁ Bd hml0 hP hK
  obtain ⟨rfl, hZ, hh⟩ := hP
  have hx := Bd.exec
  have hby := Bd.bytes
  have hml : c.maxLocals = 1 := hml0
  have hown : s.vm.findClass "com/example/klotho/klotho/WorkflowOutcome" = some m.cls := findClass_of_methodNamed Bd.named
  have hnm := (name_of_methodNamed Bd.named Bd.method).1
  have X0 : Stand p l e ({ frames := 0, cells := 0, slots := 0, locals := 0 } : Room) s m #[(.ref ob)] below meth c s₁ [] 0 0 := Stand.of_body Bd
  have e0 : s₁.heap = h0 := by rw [← hh, Bd.state]; rfl
  have N0 := Fr.nil n0
  refine OwnFin.entry (own_ef_refN m ob) (fun P' hP' => ?_)
  refine OwnFin.adv (B := s₁.setTop (mkF m 1 #[.val (.ref ob)] [(.ref ob)])) (fun _ k => XS.aloadN X0.here hx rfl (hb hby own_d10_0) rfl rfl k) ?_
  obtain ⟨T1, X1, e1, st1⟩ := getF X0 hx hZ hown (host := "") (Or.inl (hw _ (List.mem_of_getElem? (i := 77) rfl))) Via.refl e0 F (g := (mkF m 1 #[.val (.ref ob)] [(.ref ob)])) rfl rfl (hb hby own_d10_1)
  refine OwnFin.adv (B := T1.setTop (mkF m 4 #[.val (.ref ob)] [.null])) (fun _ k => st1 _ k) ?_
  refine OwnFin.adv (B := T1.setTop (mkF m 11 #[.val (.ref ob)] [])) (fun _ k => XS.ifnullYes X1.here hx rfl (pc0 := 4) (pc' := 11) rfl (hb hby own_d10_4) rfl (by decide) (by decide) k) ?_
  refine OwnFin.adv (B := T1.setTop (mkF m 12 #[.val (.ref ob)] [(.int (0 : Int32))])) (fun _ k => XS.iconst X1.here hx rfl (hb hby own_d10_11) k) ?_
  obtain ⟨fs, hr, hrun, hended, hW, hsame⟩ := X1.leave (v := some (.int (0 : Int32))) (fun h => by rw [Bd.returns] at h; cases h)
  refine OwnFin.leaf hP' ⟨_, _, retN X1 hx (t := .boolean) Bd.returns (by simp) (hb hby own_d10_12) hr, hrun, hended, _, _, rfl, ?_, ⟨_, rfl⟩, hW, hsame.mono (by decide) (by decide)⟩
  exact ⟨rfl, N0, e1⟩
theorem own_d10_7 : decode prog_37_method_3_code 7 = .ok (.iconst 1, 1) := by decide +kernel
theorem own_d10_8 : decode prog_37_method_3_code 8 = .ok (.goto 4, 3) := by decide +kernel
theorem own_ef_refR (m : MethodId) (x0 : Addr) : entryFrame m #[(.ref x0)] 1 = mkF m 0 #[.val (.ref x0)] [] := by first | (simp [entryFrame, mkF, argsToLocals, Value.category]; done) | rfl
def own_Q_refR (Z : State) (ob rf : Addr) (h0 : Heap) (n0 : Nat) (v : Option Value) (h : Heap) (L : List Loc) : Prop := v = some (.int (1 : Int32)) ∧ Fr n0 L ∧ h = h0
set_option maxRecDepth 65536 in
set_option maxHeartbeats 40000000 in
theorem own_refR (l : Launch) (Z : State) (a0 : Array Value) (hw : ∀ d ∈ tables_1, d.before a0 Z = true) (ws : List Jvm.Cond) (ob rf : Addr) (h0 : Heap) (n0 : Nat) (Z0 : n0 ≤ h0.size) (F : Fld Z h0 ob "com/example/klotho/klotho/WorkflowOutcome" "refusal" "Ljava/lang/String;" (.ref rf)) :
    MetFree l (⟨"com/example/klotho/klotho/WorkflowOutcome", "isRefused", "()Z"⟩ : MethodName) (head1 (Jvm.Cond.code (⟨"com/example/klotho/klotho/WorkflowOutcome", "isRefused", "()Z"⟩ : MethodName) prog_37_method_3_code 1 (some .boolean) :: ws) ({ frames := 0, cells := 0, slots := 0, locals := 0 } : Room)) (fun A0 U0 => A0 = #[(.ref ob)] ∧ Z.Warmed39 U0.vm ∧ U0.heap = h0) (fun _ _ _ _ _ => True) (fun _ U0 o0 U1 => ∃ v0 L0, o0 = .returned v0 ∧ own_Q_refR Z ob rf h0 n0 v0 U1.heap L0 ∧ FrameEnd U0 o0 U1 L0 ({ frames := 0, cells := 0, slots := 0, locals := 0 } : Room).cells ({ frames := 0, cells := 0, slots := 0, locals := 0 } : Room).slots) := by
  refine MetFree.of_bodySF (plainFor_of_name own_pn_com_example_klotho_klotho_WorkflowOutcome) hisR ?_
  intro p e s m args below meth c s₁ Bd hml0 hP hK
  obtain ⟨rfl, hZ, hh⟩ := hP
  have hx := Bd.exec
  have hby := Bd.bytes
  have hml : c.maxLocals = 1 := hml0
  have hown : s.vm.findClass "com/example/klotho/klotho/WorkflowOutcome" = some m.cls := findClass_of_methodNamed Bd.named
  have hnm := (name_of_methodNamed Bd.named Bd.method).1
  have X0 : Stand p l e ({ frames := 0, cells := 0, slots := 0, locals := 0 } : Room) s m #[(.ref ob)] below meth c s₁ [] 0 0 := Stand.of_body Bd
  have e0 : s₁.heap = h0 := by rw [← hh, Bd.state]; rfl
  have N0 := Fr.nil n0
  refine OwnFin.entry (own_ef_refR m ob) (fun P' hP' => ?_)
  refine OwnFin.adv (B := s₁.setTop (mkF m 1 #[.val (.ref ob)] [(.ref ob)])) (fun _ k => XS.aloadN X0.here hx rfl (hb hby own_d10_0) rfl rfl k) ?_
  obtain ⟨T1, X1, e1, st1⟩ := getF X0 hx hZ hown (host := "") (Or.inl (hw _ (List.mem_of_getElem? (i := 77) rfl))) Via.refl e0 F (g := (mkF m 1 #[.val (.ref ob)] [(.ref ob)])) rfl rfl (hb hby own_d10_1)
  refine OwnFin.adv (B := T1.setTop (mkF m 4 #[.val (.ref ob)] [(.ref rf)])) (fun _ k => st1 _ k) ?_
  refine OwnFin.adv (B := T1.setTop (mkF m 7 #[.val (.ref ob)] [])) (fun _ k => XS.ifnullNo X1.here hx rfl (hb hby own_d10_4) rfl k) ?_
  refine OwnFin.adv (B := T1.setTop (mkF m 8 #[.val (.ref ob)] [(.int (1 : Int32))])) (fun _ k => XS.iconst X1.here hx rfl (hb hby own_d10_7) k) ?_
  refine OwnFin.adv (B := T1.setTop (mkF m 12 #[.val (.ref ob)] [(.int (1 : Int32))])) (fun _ k => XS.goto X1.here hx rfl (pc0 := 8) (pc' := 12) rfl (hb hby own_d10_8) (by decide) (by decide) k) ?_
  obtain ⟨fs, hr, hrun, hended, hW, hsame⟩ := X1.leave (v := some (.int (1 : Int32))) (fun h => by rw [Bd.returns] at h; cases h)
  refine OwnFin.leaf hP' ⟨_, _, retN X1 hx (t := .boolean) Bd.returns (by simp) (hb hby own_d10_12) hr, hrun, hended, _, _, rfl, ?_, ⟨_, rfl⟩, hW, hsame.mono (by decide) (by decide)⟩
  exact ⟨rfl, N0, e1⟩
theorem own_d11_0 : decode prog_37_method_12_code 0 = .ok (.aload_n 0, 1) := by decide +kernel
theorem own_d11_1 : decode prog_37_method_12_code 1 = .ok (.getfield 25, 3) := by decide +kernel
theorem own_d11_4 : decode prog_37_method_12_code 4 = .ok (.areturn, 1) := by decide +kernel
theorem own_ef_refusal (m : MethodId) (x0 : Addr) : entryFrame m #[(.ref x0)] 1 = mkF m 0 #[.val (.ref x0)] [] := by first | (simp [entryFrame, mkF, argsToLocals, Value.category]; done) | rfl
def own_Q_refusal (Z : State) (ob rf : Addr) (h0 : Heap) (n0 : Nat) (v : Option Value) (h : Heap) (L : List Loc) : Prop := v = some (.ref rf) ∧ Fr n0 L ∧ h = h0
set_option maxRecDepth 65536 in
set_option maxHeartbeats 40000000 in
theorem own_refusal (l : Launch) (Z : State) (a0 : Array Value) (hw : ∀ d ∈ tables_1, d.before a0 Z = true) (ws : List Jvm.Cond) (ob rf : Addr) (h0 : Heap) (n0 : Nat) (Z0 : n0 ≤ h0.size) (F : Fld Z h0 ob "com/example/klotho/klotho/WorkflowOutcome" "refusal" "Ljava/lang/String;" (.ref rf)) :
    MetFree l (⟨"com/example/klotho/klotho/WorkflowOutcome", "refusal", "()Ljava/lang/String;"⟩ : MethodName) (head1 (Jvm.Cond.code (⟨"com/example/klotho/klotho/WorkflowOutcome", "refusal", "()Ljava/lang/String;"⟩ : MethodName) prog_37_method_12_code 1 (some (.object "java/lang/String")) :: ws) ({ frames := 0, cells := 0, slots := 0, locals := 0 } : Room)) (fun A0 U0 => A0 = #[(.ref ob)] ∧ Z.Warmed39 U0.vm ∧ U0.heap = h0) (fun _ _ _ _ _ => True) (fun _ U0 o0 U1 => ∃ v0 L0, o0 = .returned v0 ∧ own_Q_refusal Z ob rf h0 n0 v0 U1.heap L0 ∧ FrameEnd U0 o0 U1 L0 ({ frames := 0, cells := 0, slots := 0, locals := 0 } : Room).cells ({ frames := 0, cells := 0, slots := 0, locals := 0 } : Room).slots) := by
  refine MetFree.of_bodySF (plainFor_of_name own_pn_com_example_klotho_klotho_WorkflowOutcome) hisR ?_
  intro p e s m args below meth c s₁ Bd hml0 hP hK
  obtain ⟨rfl, hZ, hh⟩ := hP
  have hx := Bd.exec
  have hby := Bd.bytes
  have hml : c.maxLocals = 1 := hml0
  have hown : s.vm.findClass "com/example/klotho/klotho/WorkflowOutcome" = some m.cls := findClass_of_methodNamed Bd.named
  have hnm := (name_of_methodNamed Bd.named Bd.method).1
  have X0 : Stand p l e ({ frames := 0, cells := 0, slots := 0, locals := 0 } : Room) s m #[(.ref ob)] below meth c s₁ [] 0 0 := Stand.of_body Bd
  have e0 : s₁.heap = h0 := by rw [← hh, Bd.state]; rfl
  have N0 := Fr.nil n0
  refine OwnFin.entry (own_ef_refusal m ob) (fun P' hP' => ?_)
  refine OwnFin.adv (B := s₁.setTop (mkF m 1 #[.val (.ref ob)] [(.ref ob)])) (fun _ k => XS.aloadN X0.here hx rfl (hb hby own_d11_0) rfl rfl k) ?_
  obtain ⟨T1, X1, e1, st1⟩ := getF X0 hx hZ hown (host := "") (Or.inl (hw _ (List.mem_of_getElem? (i := 77) rfl))) Via.refl e0 F (g := (mkF m 1 #[.val (.ref ob)] [(.ref ob)])) rfl rfl (hb hby own_d11_1)
  refine OwnFin.adv (B := T1.setTop (mkF m 4 #[.val (.ref ob)] [(.ref rf)])) (fun _ k => st1 _ k) ?_
  obtain ⟨fs, hr, hrun, hended, hW, hsame⟩ := X1.leave (v := some (.ref rf)) (fun h => by rw [Bd.returns] at h; cases h)
  refine OwnFin.leaf hP' ⟨_, _, own_retR X1 hx Bd.returns rfl rfl rfl (hb hby own_d11_4) hr, hrun, hended, _, _, rfl, ?_, ⟨_, rfl⟩, hW, hsame.mono (by decide) (by decide)⟩
  exact ⟨rfl, N0, e1⟩
theorem own_d12_0 : decode prog_37_method_4_code 0 = .ok (.aload_n 0, 1) := by decide +kernel
theorem own_d12_1 : decode prog_37_method_4_code 1 = .ok (.getfield 25, 3) := by decide +kernel
theorem own_d12_4 : decode prog_37_method_4_code 4 = .ok (.ifnonnull 17, 3) := by decide +kernel
theorem own_d12_21 : decode prog_37_method_4_code 21 = .ok (.iconst 0, 1) := by decide +kernel
theorem own_d12_22 : decode prog_37_method_4_code 22 = .ok (.ireturn, 1) := by decide +kernel
theorem own_ef_runE (m : MethodId) (x0 : Addr) : entryFrame m #[(.ref x0)] 1 = mkF m 0 #[.val (.ref x0)] [] := by first | (simp [entryFrame, mkF, argsToLocals, Value.category]; done) | rfl
def own_Q_runE (Z : State) (ob rf : Addr) (h0 : Heap) (n0 : Nat) (v : Option Value) (h : Heap) (L : List Loc) : Prop := v = some (.int (0 : Int32)) ∧ Fr n0 L ∧ h = h0
set_option maxRecDepth 65536 in
set_option maxHeartbeats 40000000 in
theorem own_runE (l : Launch) (Z : State) (a0 : Array Value) (hw : ∀ d ∈ tables_1, d.before a0 Z = true) (ws : List Jvm.Cond) (ob rf : Addr) (h0 : Heap) (n0 : Nat) (Z0 : n0 ≤ h0.size) (F : Fld Z h0 ob "com/example/klotho/klotho/WorkflowOutcome" "refusal" "Ljava/lang/String;" (.ref rf)) :
    MetFree l (⟨"com/example/klotho/klotho/WorkflowOutcome", "isRunningElsewhere", "()Z"⟩ : MethodName) (head1 (Jvm.Cond.code (⟨"com/example/klotho/klotho/WorkflowOutcome", "isRunningElsewhere", "()Z"⟩ : MethodName) prog_37_method_4_code 1 (some .boolean) :: ws) ({ frames := 0, cells := 0, slots := 0, locals := 0 } : Room)) (fun A0 U0 => A0 = #[(.ref ob)] ∧ Z.Warmed39 U0.vm ∧ U0.heap = h0) (fun _ _ _ _ _ => True) (fun _ U0 o0 U1 => ∃ v0 L0, o0 = .returned v0 ∧ own_Q_runE Z ob rf h0 n0 v0 U1.heap L0 ∧ FrameEnd U0 o0 U1 L0 ({ frames := 0, cells := 0, slots := 0, locals := 0 } : Room).cells ({ frames := 0, cells := 0, slots := 0, locals := 0 } : Room).slots) := by
  refine MetFree.of_bodySF (plainFor_of_name own_pn_com_example_klotho_klotho_WorkflowOutcome) hisR ?_
  intro p e s m args below meth c s₁ Bd hml0 hP hK
  obtain ⟨rfl, hZ, hh⟩ := hP
  have hx := Bd.exec
  have hby := Bd.bytes
  have hml : c.maxLocals = 1 := hml0
  have hown : s.vm.findClass "com/example/klotho/klotho/WorkflowOutcome" = some m.cls := findClass_of_methodNamed Bd.named
  have hnm := (name_of_methodNamed Bd.named Bd.method).1
  have X0 : Stand p l e ({ frames := 0, cells := 0, slots := 0, locals := 0 } : Room) s m #[(.ref ob)] below meth c s₁ [] 0 0 := Stand.of_body Bd
  have e0 : s₁.heap = h0 := by rw [← hh, Bd.state]; rfl
  have N0 := Fr.nil n0
  refine OwnFin.entry (own_ef_runE m ob) (fun P' hP' => ?_)
  refine OwnFin.adv (B := s₁.setTop (mkF m 1 #[.val (.ref ob)] [(.ref ob)])) (fun _ k => XS.aloadN X0.here hx rfl (hb hby own_d12_0) rfl rfl k) ?_
  obtain ⟨T1, X1, e1, st1⟩ := getF X0 hx hZ hown (host := "") (Or.inl (hw _ (List.mem_of_getElem? (i := 77) rfl))) Via.refl e0 F (g := (mkF m 1 #[.val (.ref ob)] [(.ref ob)])) rfl rfl (hb hby own_d12_1)
  refine OwnFin.adv (B := T1.setTop (mkF m 4 #[.val (.ref ob)] [(.ref rf)])) (fun _ k => st1 _ k) ?_
  refine OwnFin.adv (B := T1.setTop (mkF m 21 #[.val (.ref ob)] [])) (fun _ k => XS.ifnonnullYes X1.here hx rfl (pc0 := 4) (pc' := 21) rfl (hb hby own_d12_4) rfl (by decide) (by decide) k) ?_
  refine OwnFin.adv (B := T1.setTop (mkF m 22 #[.val (.ref ob)] [(.int (0 : Int32))])) (fun _ k => XS.iconst X1.here hx rfl (hb hby own_d12_21) k) ?_
  obtain ⟨fs, hr, hrun, hended, hW, hsame⟩ := X1.leave (v := some (.int (0 : Int32))) (fun h => by rw [Bd.returns] at h; cases h)
  refine OwnFin.leaf hP' ⟨_, _, retN X1 hx (t := .boolean) Bd.returns (by simp) (hb hby own_d12_22) hr, hrun, hended, _, _, rfl, ?_, ⟨_, rfl⟩, hW, hsame.mono (by decide) (by decide)⟩
  exact ⟨rfl, N0, e1⟩
theorem own_narm (x : Int32) : nar .char (x &&& (255 : Int32)) = x &&& 255 := by simp only [nar, i2c_mask]
theorem own_255 (x : Int32) : ¬ (255 : Int32) < (x &&& (255 : Int32)) := (own_and255 x).2
theorem own_not0 {x : Int32} (h : x = 0 ∨ x = 1) (h0 : ¬ x = 0) : (1 : Int32) = x := by rcases h with rfl | rfl <;> first | rfl | exact absurd rfl h0
theorem own_pd_x28Cx29Ljavax2flangx2fStringx3b : parseMethodDescriptor "(C)Ljava/lang/String;" = some ⟨[.char], some (.object "java/lang/String")⟩ := by decide +kernel
theorem own_pd_x28Ljavax2flangx2fStringx3bLcomx2fexamplex2fklothox2fklothox2fInstanceStatusx3bLjavax2flangx2fObjectx3bLcomx2fexamplex2fklothox2fklothox2fRecordedFailurex3bx29V : parseMethodDescriptor "(Ljava/lang/String;Lcom/example/klotho/klotho/InstanceStatus;Ljava/lang/Object;Lcom/example/klotho/klotho/RecordedFailure;)V" = some ⟨[(.object "java/lang/String"), (.object "com/example/klotho/klotho/InstanceStatus"), (.object "java/lang/Object"), (.object "com/example/klotho/klotho/RecordedFailure")], none⟩ := by decide +kernel
theorem own_pd_x28x29Ljavax2flangx2fStringx3b : parseMethodDescriptor "()Ljava/lang/String;" = some ⟨[], some (.object "java/lang/String")⟩ := by decide +kernel
theorem own_pd_x28Ljavax2flangx2fStringx3bLjavax2flangx2fStringx3bx29V : parseMethodDescriptor "(Ljava/lang/String;Ljava/lang/String;)V" = some ⟨[(.object "java/lang/String"), (.object "java/lang/String")], none⟩ := by decide +kernel
theorem own_pd_x28Ix29Ljavax2flangx2fIntegerx3b : parseMethodDescriptor "(I)Ljava/lang/Integer;" = some ⟨[.int], some (.object "java/lang/Integer")⟩ := by decide +kernel
theorem own_pd_x28x5bCx29V : parseMethodDescriptor "([C)V" = some ⟨[(.array .char)], none⟩ := by decide +kernel
theorem own_ef_rm0 (m : MethodId) (x0 : Int32) (x1 : Int32) (x2 : Int32) (x3 : Int32) : entryFrame m #[(.int x0), (.int x1), (.int x2), (.int x3)] maxLocals = mkF m 0 #[.val (.int x0), .val (.int x1), .val (.int x2), .val (.int x3), .unset, .unset, .unset, .unset, .unset, .unset, .unset, .unset, .unset, .unset, .unset, .unset, .unset] [] := by first | (simp [entryFrame, mkF, argsToLocals, Value.category, maxLocals]; done) | rfl
theorem own_pn_com_example_klotho_klotho_WorkflowOutcomeIsRefusedPinLaw : plainName "com/example/klotho/klotho/WorkflowOutcomeIsRefusedPinLaw" = true := by first | (simp [plainName, overriddenIn]; done) | decide +kernel
def own_Q_rm0 (Z : State) (sel c0 c1 fg zc : Int32) (ca : Addr) (cl : Cell) (q0 q1 q2 q3 q4 q5 q6 q7 : Addr) (h0 : Heap) (n0 : Nat) (v : Option Value) (h : Heap) (L : List Loc) : Prop := v = some (.int (1 : Int32)) ∧ Fr n0 L
set_option maxRecDepth 65536 in
set_option maxHeartbeats 40000000 in
theorem own_rm0 (l : Launch) (Z : State) (a0 : Array Value) (hw : ∀ d ∈ tables_1, d.before a0 Z = true) (ws : List Jvm.Cond) (sel c0 c1 fg zc : Int32) (ca : Addr) (cl : Cell) (q0 q1 q2 q3 q4 q5 q6 q7 : Addr) (h0 : Heap) (n0 : Nat) (Z0 : n0 ≤ h0.size) (O0 : Old Z n0 h0) (SCS : Sta Z Z.heap "java/lang/String" "COMPACT_STRINGS" "Z" (.int zc)) (hzc : ¬ zc = 0) (SH : Sta Z Z.heap "java/lang/Integer$IntegerCache" "high" "I" (.int (127 : Int32))) (SC : Sta Z Z.heap "java/lang/Integer$IntegerCache" "cache" "[Ljava/lang/Integer;" (.ref ca)) (BX : Bxs Z ca cl "java/lang/Integer" "I" 256 (fun j => .int (j - 128))) (S_q0 : Sta Z Z.heap "com/example/klotho/klotho/InstanceStatus" "RUNNING" "Lcom/example/klotho/klotho/InstanceStatus;" (.ref q0)) (S_q1 : Sta Z Z.heap "com/example/klotho/klotho/InstanceStatus" "COMPLETED" "Lcom/example/klotho/klotho/InstanceStatus;" (.ref q1)) (S_q2 : Sta Z Z.heap "com/example/klotho/klotho/InstanceStatus" "FAILED" "Lcom/example/klotho/klotho/InstanceStatus;" (.ref q2)) (S_q3 : Sta Z Z.heap "com/example/klotho/klotho/InstanceStatus" "COMPENSATING" "Lcom/example/klotho/klotho/InstanceStatus;" (.ref q3)) (S_q4 : Sta Z Z.heap "com/example/klotho/klotho/InstanceStatus" "CANCELLED" "Lcom/example/klotho/klotho/InstanceStatus;" (.ref q4)) (S_q5 : Sta Z Z.heap "com/example/klotho/klotho/InstanceStatus" "WAITING_FOR_EVENT" "Lcom/example/klotho/klotho/InstanceStatus;" (.ref q5)) (S_q6 : Sta Z Z.heap "com/example/klotho/klotho/InstanceStatus" "WAITING_FOR_TIMER" "Lcom/example/klotho/klotho/InstanceStatus;" (.ref q6)) (S_q7 : Sta Z Z.heap "com/example/klotho/klotho/InstanceStatus" "WAITING_TO_COMPENSATE" "Lcom/example/klotho/klotho/InstanceStatus;" (.ref q7)) (E_q0 : Exa Z Z.heap q0 "com/example/klotho/klotho/InstanceStatus") (E_q1 : Exa Z Z.heap q1 "com/example/klotho/klotho/InstanceStatus") (E_q2 : Exa Z Z.heap q2 "com/example/klotho/klotho/InstanceStatus") (E_q3 : Exa Z Z.heap q3 "com/example/klotho/klotho/InstanceStatus") (E_q4 : Exa Z Z.heap q4 "com/example/klotho/klotho/InstanceStatus") (E_q5 : Exa Z Z.heap q5 "com/example/klotho/klotho/InstanceStatus") (E_q6 : Exa Z Z.heap q6 "com/example/klotho/klotho/InstanceStatus") (E_q7 : Exa Z Z.heap q7 "com/example/klotho/klotho/InstanceStatus") :
    MetFree l x (head1 (Jvm.Cond.code x code maxLocals ret :: ws) room_1) (fun A0 U0 => A0 = #[(.int sel), (.int c0), (.int c1), (.int fg)] ∧ Z.Warmed39 U0.vm ∧ U0.heap = h0 ∧ CHv Z own_EL U0.vm h0) (fun _ _ _ _ _ => True) (fun _ U0 o0 U1 => ∃ v0 L0, o0 = .returned v0 ∧ own_Q_rm0 Z sel c0 c1 fg zc ca cl q0 q1 q2 q3 q4 q5 q6 q7 h0 n0 v0 U1.heap L0 ∧ ReturnedEndW U0 o0 U1 L0 room_1.cells room_1.slots) := by
  refine MetFree.of_bodySF (plainFor_of_name own_pn_com_example_klotho_klotho_WorkflowOutcomeIsRefusedPinLaw) hisR ?_
  intro p e s m args below meth c s₁ Bd hml0 hP hK
  obtain ⟨rfl, hZ, hh, H0⟩ := hP
  have hx := Bd.exec
  have hby := Bd.bytes
  have hml : c.maxLocals = 17 := hml0
  have hown : s.vm.findClass "com/example/klotho/klotho/WorkflowOutcomeIsRefusedPinLaw" = some m.cls := findClass_of_methodNamed Bd.named
  have hnm := (name_of_methodNamed Bd.named Bd.method).1
  have X0 : Stand p l e room_1 s m #[(.int sel), (.int c0), (.int c1), (.int fg)] below meth c s₁ [] 0 0 := Stand.of_body Bd
  have e0 : s₁.heap = h0 := by rw [← hh, Bd.state]; rfl
  have N0 := Fr.nil n0
  refine OwnFin.entry (own_ef_rm0 m sel c0 c1 fg) (fun P' hP' => ?_)
  refine OwnFin.adv (B := s₁.setTop (mkF m 2 #[.val (.int sel), .val (.int c0), .val (.int c1), .val (.int fg), .unset, .unset, .unset, .unset, .unset, .unset, .unset, .unset, .unset, .unset, .unset, .unset, .unset] [(.int (8 : Int32))])) (fun _ k => XS.bipush X0.here hx rfl (hb hby at_0) k) ?_
  obtain ⟨T1, h1, k1, X1, e1, E1, A1, O1, st1⟩ := newR X0 hx hZ hown (hw _ (List.mem_of_getElem? (i := 0) rfl)) (hw _ (List.mem_of_getElem? (i := 1) rfl)) e0 (g := (mkF m 2 #[.val (.int sel), .val (.int c0), .val (.int c1), .val (.int fg), .unset, .unset, .unset, .unset, .unset, .unset, .unset, .unset, .unset, .unset, .unset, .unset, .unset] [(.int (8 : Int32))])) rfl (hb hby at_2) rfl (by decide) (cap := 8) (by decide) (by decide) (by decide) (by decide)
  obtain ⟨b1, g1⟩ : ∃ z, z = h0.size := ⟨_, rfl⟩
  rw [← g1] at A1 st1
  have sz2 : h0.size ≤ h1.size := E1.1
  have chA2 : CHr Z own_EL s.vm h0 s.vm h1 := ((CHr.refl H0)).trans (CHr.ext E1 ((CHr.refl H0)).1)
  have lt_b1 := own_lt A1.lt
  have V1 : Arv Z h1 b1 k1 (.object "com/example/klotho/klotho/InstanceStatus") (8 : Int32) [.null, .null, .null, .null, .null, .null, .null, .null] .null := (Arv.new A1 (by decide)).pad (pad_rep [] .null 8)
  refine OwnFin.adv (B := T1.setTop (mkF m 5 #[.val (.int sel), .val (.int c0), .val (.int c1), .val (.int fg), .unset, .unset, .unset, .unset, .unset, .unset, .unset, .unset, .unset, .unset, .unset, .unset, .unset] [(.ref b1)])) (fun _ k => st1 _ k) ?_
  refine OwnFin.adv (B := T1.setTop (mkF m 6 #[.val (.int sel), .val (.int c0), .val (.int c1), .val (.int fg), .unset, .unset, .unset, .unset, .unset, .unset, .unset, .unset, .unset, .unset, .unset, .unset, .unset] [(.ref b1), (.ref b1)])) (fun _ k => XS.dup X1.here hx rfl (hb hby at_5) rfl rfl k) ?_
  refine OwnFin.adv (B := T1.setTop (mkF m 7 #[.val (.int sel), .val (.int c0), .val (.int c1), .val (.int fg), .unset, .unset, .unset, .unset, .unset, .unset, .unset, .unset, .unset, .unset, .unset, .unset, .unset] [(.int (0 : Int32)), (.ref b1), (.ref b1)])) (fun _ k => XS.iconst X1.here hx rfl (hb hby at_6) k) ?_
  have Old4 : Old Z n0 h1 := (O0.ext E1)
  obtain ⟨T3, X3, e3, st3⟩ := getS2 X1 hx hZ hown (host := "") (Or.inl (hw _ (List.mem_of_getElem? (i := 2) rfl))) Via.refl e1 (own_staK S_q0 Old4) (g := (mkF m 7 #[.val (.int sel), .val (.int c0), .val (.int c1), .val (.int fg), .unset, .unset, .unset, .unset, .unset, .unset, .unset, .unset, .unset, .unset, .unset, .unset, .unset] [(.int (0 : Int32)), (.ref b1), (.ref b1)])) rfl (hb hby at_7)
  refine OwnFin.adv (B := T3.setTop (mkF m 10 #[.val (.int sel), .val (.int c0), .val (.int c1), .val (.int fg), .unset, .unset, .unset, .unset, .unset, .unset, .unset, .unset, .unset, .unset, .unset, .unset, .unset] [(.ref q0), (.int (0 : Int32)), (.ref b1), (.ref b1)])) (fun _ k => st3 _ k) ?_
  obtain ⟨cl5, Ar5, ck5, S5, M5, H5, G5⟩ := id V1
  have hin5 : ¬ ((0 : Int32) < 0 ∨ cl5.slots.size ≤ ((0 : Int32)).toNatClampNeg) := inb_of S5 ⟨by decide, by decide⟩
  obtain ⟨T5, h5, X5, e5, W5, st5⟩ := stR X3 hx hZ e3 Ar5 (j := (0 : Int32)) hin5 rfl (Sto.ofV Ar5 ck5 O1 (Ins.self (E_q0.ext Old4.2))) (g := (mkF m 10 #[.val (.int sel), .val (.int c0), .val (.int c1), .val (.int fg), .unset, .unset, .unset, .unset, .unset, .unset, .unset, .unset, .unset, .unset, .unset, .unset, .unset] [(.ref q0), (.int (0 : Int32)), (.ref b1), (.ref b1)])) rfl rfl (hb hby at_10)
  have V5 : Arv Z h5 b1 k1 (.object "com/example/klotho/klotho/InstanceStatus") (8 : Int32) [(.ref q0), .null, .null, .null, .null, .null, .null, .null] .null := Arv.set Ar5 ck5 S5 M5 H5 G5 rfl W5 0 rfl (Nat.le_of_ble_eq_true rfl)
  have sz6 : h1.size ≤ h5.size := Nat.le_of_eq W5.size.symm
  have chA6 : CHr Z own_EL s.vm h0 s.vm h5 := (chA2).trans (CHr.wr W5 (Safe.arv hZ.alike V1 (by decide)) (chA2).1)
  have N5 := Fr.snoc X5 N0 (by omega : n0 ≤ b1)
  refine OwnFin.adv (B := T5.setTop (mkF m 11 #[.val (.int sel), .val (.int c0), .val (.int c1), .val (.int fg), .unset, .unset, .unset, .unset, .unset, .unset, .unset, .unset, .unset, .unset, .unset, .unset, .unset] [(.ref b1)])) (fun _ k => st5 _ k) ?_
  refine OwnFin.adv (B := T5.setTop (mkF m 12 #[.val (.int sel), .val (.int c0), .val (.int c1), .val (.int fg), .unset, .unset, .unset, .unset, .unset, .unset, .unset, .unset, .unset, .unset, .unset, .unset, .unset] [(.ref b1), (.ref b1)])) (fun _ k => XS.dup X5.here hx rfl (hb hby at_11) rfl rfl k) ?_
  refine OwnFin.adv (B := T5.setTop (mkF m 13 #[.val (.int sel), .val (.int c0), .val (.int c1), .val (.int fg), .unset, .unset, .unset, .unset, .unset, .unset, .unset, .unset, .unset, .unset, .unset, .unset, .unset] [(.int (1 : Int32)), (.ref b1), (.ref b1)])) (fun _ k => XS.iconst X5.here hx rfl (hb hby at_12) k) ?_
  have Old8 : Old Z n0 h5 := (Old4.wr W5 (by omega))
  obtain ⟨T7, X7, e7, st7⟩ := getS2 X5 hx hZ hown (host := "") (Or.inl (hw _ (List.mem_of_getElem? (i := 6) rfl))) Via.refl e5 (own_staK S_q1 Old8) (g := (mkF m 13 #[.val (.int sel), .val (.int c0), .val (.int c1), .val (.int fg), .unset, .unset, .unset, .unset, .unset, .unset, .unset, .unset, .unset, .unset, .unset, .unset, .unset] [(.int (1 : Int32)), (.ref b1), (.ref b1)])) rfl (hb hby at_13)
  refine OwnFin.adv (B := T7.setTop (mkF m 16 #[.val (.int sel), .val (.int c0), .val (.int c1), .val (.int fg), .unset, .unset, .unset, .unset, .unset, .unset, .unset, .unset, .unset, .unset, .unset, .unset, .unset] [(.ref q1), (.int (1 : Int32)), (.ref b1), (.ref b1)])) (fun _ k => st7 _ k) ?_
  obtain ⟨cl9, Ar9, ck9, S9, M9, H9, G9⟩ := id V5
  have hin9 : ¬ ((1 : Int32) < 0 ∨ cl9.slots.size ≤ ((1 : Int32)).toNatClampNeg) := inb_of S9 ⟨by decide, by decide⟩
  obtain ⟨T9, h9, X9, e9, W9, st9⟩ := stR X7 hx hZ e7 Ar9 (j := (1 : Int32)) hin9 rfl (Sto.ofV Ar9 ck9 O1 (Ins.self (E_q1.ext Old8.2))) (g := (mkF m 16 #[.val (.int sel), .val (.int c0), .val (.int c1), .val (.int fg), .unset, .unset, .unset, .unset, .unset, .unset, .unset, .unset, .unset, .unset, .unset, .unset, .unset] [(.ref q1), (.int (1 : Int32)), (.ref b1), (.ref b1)])) rfl rfl (hb hby at_16)
  have V9 : Arv Z h9 b1 k1 (.object "com/example/klotho/klotho/InstanceStatus") (8 : Int32) [(.ref q0), (.ref q1), .null, .null, .null, .null, .null, .null] .null := Arv.set Ar9 ck9 S9 M9 H9 G9 rfl W9 1 rfl (Nat.le_of_ble_eq_true rfl)
  have sz10 : h5.size ≤ h9.size := Nat.le_of_eq W9.size.symm
  have chA10 : CHr Z own_EL s.vm h0 s.vm h9 := (chA6).trans (CHr.wr W9 (Safe.arv hZ.alike V5 (by decide)) (chA6).1)
  have N9 := Fr.snoc X9 N5 (by omega : n0 ≤ b1)
  refine OwnFin.adv (B := T9.setTop (mkF m 17 #[.val (.int sel), .val (.int c0), .val (.int c1), .val (.int fg), .unset, .unset, .unset, .unset, .unset, .unset, .unset, .unset, .unset, .unset, .unset, .unset, .unset] [(.ref b1)])) (fun _ k => st9 _ k) ?_
  refine OwnFin.adv (B := T9.setTop (mkF m 18 #[.val (.int sel), .val (.int c0), .val (.int c1), .val (.int fg), .unset, .unset, .unset, .unset, .unset, .unset, .unset, .unset, .unset, .unset, .unset, .unset, .unset] [(.ref b1), (.ref b1)])) (fun _ k => XS.dup X9.here hx rfl (hb hby at_17) rfl rfl k) ?_
  refine OwnFin.adv (B := T9.setTop (mkF m 19 #[.val (.int sel), .val (.int c0), .val (.int c1), .val (.int fg), .unset, .unset, .unset, .unset, .unset, .unset, .unset, .unset, .unset, .unset, .unset, .unset, .unset] [(.int (2 : Int32)), (.ref b1), (.ref b1)])) (fun _ k => XS.iconst X9.here hx rfl (hb hby at_18) k) ?_
  have Old12 : Old Z n0 h9 := (Old8.wr W9 (by omega))
  obtain ⟨T11, X11, e11, st11⟩ := getS2 X9 hx hZ hown (host := "") (Or.inl (hw _ (List.mem_of_getElem? (i := 8) rfl))) Via.refl e9 (own_staK S_q2 Old12) (g := (mkF m 19 #[.val (.int sel), .val (.int c0), .val (.int c1), .val (.int fg), .unset, .unset, .unset, .unset, .unset, .unset, .unset, .unset, .unset, .unset, .unset, .unset, .unset] [(.int (2 : Int32)), (.ref b1), (.ref b1)])) rfl (hb hby at_19)
  refine OwnFin.adv (B := T11.setTop (mkF m 22 #[.val (.int sel), .val (.int c0), .val (.int c1), .val (.int fg), .unset, .unset, .unset, .unset, .unset, .unset, .unset, .unset, .unset, .unset, .unset, .unset, .unset] [(.ref q2), (.int (2 : Int32)), (.ref b1), (.ref b1)])) (fun _ k => st11 _ k) ?_
  obtain ⟨cl13, Ar13, ck13, S13, M13, H13, G13⟩ := id V9
  have hin13 : ¬ ((2 : Int32) < 0 ∨ cl13.slots.size ≤ ((2 : Int32)).toNatClampNeg) := inb_of S13 ⟨by decide, by decide⟩
  obtain ⟨T13, h13, X13, e13, W13, st13⟩ := stR X11 hx hZ e11 Ar13 (j := (2 : Int32)) hin13 rfl (Sto.ofV Ar13 ck13 O1 (Ins.self (E_q2.ext Old12.2))) (g := (mkF m 22 #[.val (.int sel), .val (.int c0), .val (.int c1), .val (.int fg), .unset, .unset, .unset, .unset, .unset, .unset, .unset, .unset, .unset, .unset, .unset, .unset, .unset] [(.ref q2), (.int (2 : Int32)), (.ref b1), (.ref b1)])) rfl rfl (hb hby at_22)
  have V13 : Arv Z h13 b1 k1 (.object "com/example/klotho/klotho/InstanceStatus") (8 : Int32) [(.ref q0), (.ref q1), (.ref q2), .null, .null, .null, .null, .null] .null := Arv.set Ar13 ck13 S13 M13 H13 G13 rfl W13 2 rfl (Nat.le_of_ble_eq_true rfl)
  have sz14 : h9.size ≤ h13.size := Nat.le_of_eq W13.size.symm
  have chA14 : CHr Z own_EL s.vm h0 s.vm h13 := (chA10).trans (CHr.wr W13 (Safe.arv hZ.alike V9 (by decide)) (chA10).1)
  have N13 := Fr.snoc X13 N9 (by omega : n0 ≤ b1)
  refine OwnFin.adv (B := T13.setTop (mkF m 23 #[.val (.int sel), .val (.int c0), .val (.int c1), .val (.int fg), .unset, .unset, .unset, .unset, .unset, .unset, .unset, .unset, .unset, .unset, .unset, .unset, .unset] [(.ref b1)])) (fun _ k => st13 _ k) ?_
  refine OwnFin.adv (B := T13.setTop (mkF m 24 #[.val (.int sel), .val (.int c0), .val (.int c1), .val (.int fg), .unset, .unset, .unset, .unset, .unset, .unset, .unset, .unset, .unset, .unset, .unset, .unset, .unset] [(.ref b1), (.ref b1)])) (fun _ k => XS.dup X13.here hx rfl (hb hby at_23) rfl rfl k) ?_
  refine OwnFin.adv (B := T13.setTop (mkF m 25 #[.val (.int sel), .val (.int c0), .val (.int c1), .val (.int fg), .unset, .unset, .unset, .unset, .unset, .unset, .unset, .unset, .unset, .unset, .unset, .unset, .unset] [(.int (3 : Int32)), (.ref b1), (.ref b1)])) (fun _ k => XS.iconst X13.here hx rfl (hb hby at_24) k) ?_
  have Old16 : Old Z n0 h13 := (Old12.wr W13 (by omega))
  obtain ⟨T15, X15, e15, st15⟩ := getS2 X13 hx hZ hown (host := "") (Or.inl (hw _ (List.mem_of_getElem? (i := 10) rfl))) Via.refl e13 (own_staK S_q3 Old16) (g := (mkF m 25 #[.val (.int sel), .val (.int c0), .val (.int c1), .val (.int fg), .unset, .unset, .unset, .unset, .unset, .unset, .unset, .unset, .unset, .unset, .unset, .unset, .unset] [(.int (3 : Int32)), (.ref b1), (.ref b1)])) rfl (hb hby at_25)
  refine OwnFin.adv (B := T15.setTop (mkF m 28 #[.val (.int sel), .val (.int c0), .val (.int c1), .val (.int fg), .unset, .unset, .unset, .unset, .unset, .unset, .unset, .unset, .unset, .unset, .unset, .unset, .unset] [(.ref q3), (.int (3 : Int32)), (.ref b1), (.ref b1)])) (fun _ k => st15 _ k) ?_
  obtain ⟨cl17, Ar17, ck17, S17, M17, H17, G17⟩ := id V13
  have hin17 : ¬ ((3 : Int32) < 0 ∨ cl17.slots.size ≤ ((3 : Int32)).toNatClampNeg) := inb_of S17 ⟨by decide, by decide⟩
  obtain ⟨T17, h17, X17, e17, W17, st17⟩ := stR X15 hx hZ e15 Ar17 (j := (3 : Int32)) hin17 rfl (Sto.ofV Ar17 ck17 O1 (Ins.self (E_q3.ext Old16.2))) (g := (mkF m 28 #[.val (.int sel), .val (.int c0), .val (.int c1), .val (.int fg), .unset, .unset, .unset, .unset, .unset, .unset, .unset, .unset, .unset, .unset, .unset, .unset, .unset] [(.ref q3), (.int (3 : Int32)), (.ref b1), (.ref b1)])) rfl rfl (hb hby at_28)
  have V17 : Arv Z h17 b1 k1 (.object "com/example/klotho/klotho/InstanceStatus") (8 : Int32) [(.ref q0), (.ref q1), (.ref q2), (.ref q3), .null, .null, .null, .null] .null := Arv.set Ar17 ck17 S17 M17 H17 G17 rfl W17 3 rfl (Nat.le_of_ble_eq_true rfl)
  have sz18 : h13.size ≤ h17.size := Nat.le_of_eq W17.size.symm
  have chA18 : CHr Z own_EL s.vm h0 s.vm h17 := (chA14).trans (CHr.wr W17 (Safe.arv hZ.alike V13 (by decide)) (chA14).1)
  have N17 := Fr.snoc X17 N13 (by omega : n0 ≤ b1)
  refine OwnFin.adv (B := T17.setTop (mkF m 29 #[.val (.int sel), .val (.int c0), .val (.int c1), .val (.int fg), .unset, .unset, .unset, .unset, .unset, .unset, .unset, .unset, .unset, .unset, .unset, .unset, .unset] [(.ref b1)])) (fun _ k => st17 _ k) ?_
  refine OwnFin.adv (B := T17.setTop (mkF m 30 #[.val (.int sel), .val (.int c0), .val (.int c1), .val (.int fg), .unset, .unset, .unset, .unset, .unset, .unset, .unset, .unset, .unset, .unset, .unset, .unset, .unset] [(.ref b1), (.ref b1)])) (fun _ k => XS.dup X17.here hx rfl (hb hby at_29) rfl rfl k) ?_
  refine OwnFin.adv (B := T17.setTop (mkF m 31 #[.val (.int sel), .val (.int c0), .val (.int c1), .val (.int fg), .unset, .unset, .unset, .unset, .unset, .unset, .unset, .unset, .unset, .unset, .unset, .unset, .unset] [(.int (4 : Int32)), (.ref b1), (.ref b1)])) (fun _ k => XS.iconst X17.here hx rfl (hb hby at_30) k) ?_
  have Old20 : Old Z n0 h17 := (Old16.wr W17 (by omega))
  obtain ⟨T19, X19, e19, st19⟩ := getS2 X17 hx hZ hown (host := "") (Or.inl (hw _ (List.mem_of_getElem? (i := 12) rfl))) Via.refl e17 (own_staK S_q4 Old20) (g := (mkF m 31 #[.val (.int sel), .val (.int c0), .val (.int c1), .val (.int fg), .unset, .unset, .unset, .unset, .unset, .unset, .unset, .unset, .unset, .unset, .unset, .unset, .unset] [(.int (4 : Int32)), (.ref b1), (.ref b1)])) rfl (hb hby at_31)
  refine OwnFin.adv (B := T19.setTop (mkF m 34 #[.val (.int sel), .val (.int c0), .val (.int c1), .val (.int fg), .unset, .unset, .unset, .unset, .unset, .unset, .unset, .unset, .unset, .unset, .unset, .unset, .unset] [(.ref q4), (.int (4 : Int32)), (.ref b1), (.ref b1)])) (fun _ k => st19 _ k) ?_
  obtain ⟨cl21, Ar21, ck21, S21, M21, H21, G21⟩ := id V17
  have hin21 : ¬ ((4 : Int32) < 0 ∨ cl21.slots.size ≤ ((4 : Int32)).toNatClampNeg) := inb_of S21 ⟨by decide, by decide⟩
  obtain ⟨T21, h21, X21, e21, W21, st21⟩ := stR X19 hx hZ e19 Ar21 (j := (4 : Int32)) hin21 rfl (Sto.ofV Ar21 ck21 O1 (Ins.self (E_q4.ext Old20.2))) (g := (mkF m 34 #[.val (.int sel), .val (.int c0), .val (.int c1), .val (.int fg), .unset, .unset, .unset, .unset, .unset, .unset, .unset, .unset, .unset, .unset, .unset, .unset, .unset] [(.ref q4), (.int (4 : Int32)), (.ref b1), (.ref b1)])) rfl rfl (hb hby at_34)
  have V21 : Arv Z h21 b1 k1 (.object "com/example/klotho/klotho/InstanceStatus") (8 : Int32) [(.ref q0), (.ref q1), (.ref q2), (.ref q3), (.ref q4), .null, .null, .null] .null := Arv.set Ar21 ck21 S21 M21 H21 G21 rfl W21 4 rfl (Nat.le_of_ble_eq_true rfl)
  have sz22 : h17.size ≤ h21.size := Nat.le_of_eq W21.size.symm
  have chA22 : CHr Z own_EL s.vm h0 s.vm h21 := (chA18).trans (CHr.wr W21 (Safe.arv hZ.alike V17 (by decide)) (chA18).1)
  have N21 := Fr.snoc X21 N17 (by omega : n0 ≤ b1)
  refine OwnFin.adv (B := T21.setTop (mkF m 35 #[.val (.int sel), .val (.int c0), .val (.int c1), .val (.int fg), .unset, .unset, .unset, .unset, .unset, .unset, .unset, .unset, .unset, .unset, .unset, .unset, .unset] [(.ref b1)])) (fun _ k => st21 _ k) ?_
  refine OwnFin.adv (B := T21.setTop (mkF m 36 #[.val (.int sel), .val (.int c0), .val (.int c1), .val (.int fg), .unset, .unset, .unset, .unset, .unset, .unset, .unset, .unset, .unset, .unset, .unset, .unset, .unset] [(.ref b1), (.ref b1)])) (fun _ k => XS.dup X21.here hx rfl (hb hby at_35) rfl rfl k) ?_
  refine OwnFin.adv (B := T21.setTop (mkF m 37 #[.val (.int sel), .val (.int c0), .val (.int c1), .val (.int fg), .unset, .unset, .unset, .unset, .unset, .unset, .unset, .unset, .unset, .unset, .unset, .unset, .unset] [(.int (5 : Int32)), (.ref b1), (.ref b1)])) (fun _ k => XS.iconst X21.here hx rfl (hb hby at_36) k) ?_
  have Old24 : Old Z n0 h21 := (Old20.wr W21 (by omega))
  obtain ⟨T23, X23, e23, st23⟩ := getS2 X21 hx hZ hown (host := "") (Or.inl (hw _ (List.mem_of_getElem? (i := 14) rfl))) Via.refl e21 (own_staK S_q5 Old24) (g := (mkF m 37 #[.val (.int sel), .val (.int c0), .val (.int c1), .val (.int fg), .unset, .unset, .unset, .unset, .unset, .unset, .unset, .unset, .unset, .unset, .unset, .unset, .unset] [(.int (5 : Int32)), (.ref b1), (.ref b1)])) rfl (hb hby at_37)
  refine OwnFin.adv (B := T23.setTop (mkF m 40 #[.val (.int sel), .val (.int c0), .val (.int c1), .val (.int fg), .unset, .unset, .unset, .unset, .unset, .unset, .unset, .unset, .unset, .unset, .unset, .unset, .unset] [(.ref q5), (.int (5 : Int32)), (.ref b1), (.ref b1)])) (fun _ k => st23 _ k) ?_
  obtain ⟨cl25, Ar25, ck25, S25, M25, H25, G25⟩ := id V21
  have hin25 : ¬ ((5 : Int32) < 0 ∨ cl25.slots.size ≤ ((5 : Int32)).toNatClampNeg) := inb_of S25 ⟨by decide, by decide⟩
  obtain ⟨T25, h25, X25, e25, W25, st25⟩ := stR X23 hx hZ e23 Ar25 (j := (5 : Int32)) hin25 rfl (Sto.ofV Ar25 ck25 O1 (Ins.self (E_q5.ext Old24.2))) (g := (mkF m 40 #[.val (.int sel), .val (.int c0), .val (.int c1), .val (.int fg), .unset, .unset, .unset, .unset, .unset, .unset, .unset, .unset, .unset, .unset, .unset, .unset, .unset] [(.ref q5), (.int (5 : Int32)), (.ref b1), (.ref b1)])) rfl rfl (hb hby at_40)
  have V25 : Arv Z h25 b1 k1 (.object "com/example/klotho/klotho/InstanceStatus") (8 : Int32) [(.ref q0), (.ref q1), (.ref q2), (.ref q3), (.ref q4), (.ref q5), .null, .null] .null := Arv.set Ar25 ck25 S25 M25 H25 G25 rfl W25 5 rfl (Nat.le_of_ble_eq_true rfl)
  have sz26 : h21.size ≤ h25.size := Nat.le_of_eq W25.size.symm
  have chA26 : CHr Z own_EL s.vm h0 s.vm h25 := (chA22).trans (CHr.wr W25 (Safe.arv hZ.alike V21 (by decide)) (chA22).1)
  have N25 := Fr.snoc X25 N21 (by omega : n0 ≤ b1)
  refine OwnFin.adv (B := T25.setTop (mkF m 41 #[.val (.int sel), .val (.int c0), .val (.int c1), .val (.int fg), .unset, .unset, .unset, .unset, .unset, .unset, .unset, .unset, .unset, .unset, .unset, .unset, .unset] [(.ref b1)])) (fun _ k => st25 _ k) ?_
  refine OwnFin.adv (B := T25.setTop (mkF m 42 #[.val (.int sel), .val (.int c0), .val (.int c1), .val (.int fg), .unset, .unset, .unset, .unset, .unset, .unset, .unset, .unset, .unset, .unset, .unset, .unset, .unset] [(.ref b1), (.ref b1)])) (fun _ k => XS.dup X25.here hx rfl (hb hby at_41) rfl rfl k) ?_
  refine OwnFin.adv (B := T25.setTop (mkF m 44 #[.val (.int sel), .val (.int c0), .val (.int c1), .val (.int fg), .unset, .unset, .unset, .unset, .unset, .unset, .unset, .unset, .unset, .unset, .unset, .unset, .unset] [(.int (6 : Int32)), (.ref b1), (.ref b1)])) (fun _ k => XS.bipush X25.here hx rfl (hb hby at_42) k) ?_
  have Old28 : Old Z n0 h25 := (Old24.wr W25 (by omega))
  obtain ⟨T27, X27, e27, st27⟩ := getS2 X25 hx hZ hown (host := "") (Or.inl (hw _ (List.mem_of_getElem? (i := 16) rfl))) Via.refl e25 (own_staK S_q6 Old28) (g := (mkF m 44 #[.val (.int sel), .val (.int c0), .val (.int c1), .val (.int fg), .unset, .unset, .unset, .unset, .unset, .unset, .unset, .unset, .unset, .unset, .unset, .unset, .unset] [(.int (6 : Int32)), (.ref b1), (.ref b1)])) rfl (hb hby at_44)
  refine OwnFin.adv (B := T27.setTop (mkF m 47 #[.val (.int sel), .val (.int c0), .val (.int c1), .val (.int fg), .unset, .unset, .unset, .unset, .unset, .unset, .unset, .unset, .unset, .unset, .unset, .unset, .unset] [(.ref q6), (.int (6 : Int32)), (.ref b1), (.ref b1)])) (fun _ k => st27 _ k) ?_
  obtain ⟨cl29, Ar29, ck29, S29, M29, H29, G29⟩ := id V25
  have hin29 : ¬ ((6 : Int32) < 0 ∨ cl29.slots.size ≤ ((6 : Int32)).toNatClampNeg) := inb_of S29 ⟨by decide, by decide⟩
  obtain ⟨T29, h29, X29, e29, W29, st29⟩ := stR X27 hx hZ e27 Ar29 (j := (6 : Int32)) hin29 rfl (Sto.ofV Ar29 ck29 O1 (Ins.self (E_q6.ext Old28.2))) (g := (mkF m 47 #[.val (.int sel), .val (.int c0), .val (.int c1), .val (.int fg), .unset, .unset, .unset, .unset, .unset, .unset, .unset, .unset, .unset, .unset, .unset, .unset, .unset] [(.ref q6), (.int (6 : Int32)), (.ref b1), (.ref b1)])) rfl rfl (hb hby at_47)
  have V29 : Arv Z h29 b1 k1 (.object "com/example/klotho/klotho/InstanceStatus") (8 : Int32) [(.ref q0), (.ref q1), (.ref q2), (.ref q3), (.ref q4), (.ref q5), (.ref q6), .null] .null := Arv.set Ar29 ck29 S29 M29 H29 G29 rfl W29 6 rfl (Nat.le_of_ble_eq_true rfl)
  have sz30 : h25.size ≤ h29.size := Nat.le_of_eq W29.size.symm
  have chA30 : CHr Z own_EL s.vm h0 s.vm h29 := (chA26).trans (CHr.wr W29 (Safe.arv hZ.alike V25 (by decide)) (chA26).1)
  have N29 := Fr.snoc X29 N25 (by omega : n0 ≤ b1)
  refine OwnFin.adv (B := T29.setTop (mkF m 48 #[.val (.int sel), .val (.int c0), .val (.int c1), .val (.int fg), .unset, .unset, .unset, .unset, .unset, .unset, .unset, .unset, .unset, .unset, .unset, .unset, .unset] [(.ref b1)])) (fun _ k => st29 _ k) ?_
  refine OwnFin.adv (B := T29.setTop (mkF m 49 #[.val (.int sel), .val (.int c0), .val (.int c1), .val (.int fg), .unset, .unset, .unset, .unset, .unset, .unset, .unset, .unset, .unset, .unset, .unset, .unset, .unset] [(.ref b1), (.ref b1)])) (fun _ k => XS.dup X29.here hx rfl (hb hby at_48) rfl rfl k) ?_
  refine OwnFin.adv (B := T29.setTop (mkF m 51 #[.val (.int sel), .val (.int c0), .val (.int c1), .val (.int fg), .unset, .unset, .unset, .unset, .unset, .unset, .unset, .unset, .unset, .unset, .unset, .unset, .unset] [(.int (7 : Int32)), (.ref b1), (.ref b1)])) (fun _ k => XS.bipush X29.here hx rfl (hb hby at_49) k) ?_
  have Old32 : Old Z n0 h29 := (Old28.wr W29 (by omega))
  obtain ⟨T31, X31, e31, st31⟩ := getS2 X29 hx hZ hown (host := "") (Or.inl (hw _ (List.mem_of_getElem? (i := 18) rfl))) Via.refl e29 (own_staK S_q7 Old32) (g := (mkF m 51 #[.val (.int sel), .val (.int c0), .val (.int c1), .val (.int fg), .unset, .unset, .unset, .unset, .unset, .unset, .unset, .unset, .unset, .unset, .unset, .unset, .unset] [(.int (7 : Int32)), (.ref b1), (.ref b1)])) rfl (hb hby at_51)
  refine OwnFin.adv (B := T31.setTop (mkF m 54 #[.val (.int sel), .val (.int c0), .val (.int c1), .val (.int fg), .unset, .unset, .unset, .unset, .unset, .unset, .unset, .unset, .unset, .unset, .unset, .unset, .unset] [(.ref q7), (.int (7 : Int32)), (.ref b1), (.ref b1)])) (fun _ k => st31 _ k) ?_
  obtain ⟨cl33, Ar33, ck33, S33, M33, H33, G33⟩ := id V29
  have hin33 : ¬ ((7 : Int32) < 0 ∨ cl33.slots.size ≤ ((7 : Int32)).toNatClampNeg) := inb_of S33 ⟨by decide, by decide⟩
  obtain ⟨T33, h33, X33, e33, W33, st33⟩ := stR X31 hx hZ e31 Ar33 (j := (7 : Int32)) hin33 rfl (Sto.ofV Ar33 ck33 O1 (Ins.self (E_q7.ext Old32.2))) (g := (mkF m 54 #[.val (.int sel), .val (.int c0), .val (.int c1), .val (.int fg), .unset, .unset, .unset, .unset, .unset, .unset, .unset, .unset, .unset, .unset, .unset, .unset, .unset] [(.ref q7), (.int (7 : Int32)), (.ref b1), (.ref b1)])) rfl rfl (hb hby at_54)
  have V33 : Arv Z h33 b1 k1 (.object "com/example/klotho/klotho/InstanceStatus") (8 : Int32) [(.ref q0), (.ref q1), (.ref q2), (.ref q3), (.ref q4), (.ref q5), (.ref q6), (.ref q7)] .null := Arv.set Ar33 ck33 S33 M33 H33 G33 rfl W33 7 rfl (Nat.le_of_ble_eq_true rfl)
  have sz34 : h29.size ≤ h33.size := Nat.le_of_eq W33.size.symm
  have chA34 : CHr Z own_EL s.vm h0 s.vm h33 := (chA30).trans (CHr.wr W33 (Safe.arv hZ.alike V29 (by decide)) (chA30).1)
  have N33 := Fr.snoc X33 N29 (by omega : n0 ≤ b1)
  refine OwnFin.adv (B := T33.setTop (mkF m 55 #[.val (.int sel), .val (.int c0), .val (.int c1), .val (.int fg), .unset, .unset, .unset, .unset, .unset, .unset, .unset, .unset, .unset, .unset, .unset, .unset, .unset] [(.ref b1)])) (fun _ k => st33 _ k) ?_
  refine OwnFin.adv (B := T33.setTop (mkF m 57 #[.val (.int sel), .val (.int c0), .val (.int c1), .val (.int fg), .val (.ref b1), .unset, .unset, .unset, .unset, .unset, .unset, .unset, .unset, .unset, .unset, .unset, .unset] [])) (fun _ k => XS.astore X33.here hx rfl (hb hby at_55) rfl rfl (l' := #[.val (.int sel), .val (.int c0), .val (.int c1), .val (.int fg), .val (.ref b1), .unset, .unset, .unset, .unset, .unset, .unset, .unset, .unset, .unset, .unset, .unset, .unset]) rfl k) ?_
  refine OwnFin.adv (B := T33.setTop (mkF m 59 #[.val (.int sel), .val (.int c0), .val (.int c1), .val (.int fg), .val (.ref b1), .unset, .unset, .unset, .unset, .unset, .unset, .unset, .unset, .unset, .unset, .unset, .unset] [(.ref b1)])) (fun _ k => XS.aload X33.here hx rfl (hb hby at_57) rfl rfl k) ?_
  refine OwnFin.adv (B := T33.setTop (mkF m 60 #[.val (.int sel), .val (.int c0), .val (.int c1), .val (.int fg), .val (.ref b1), .unset, .unset, .unset, .unset, .unset, .unset, .unset, .unset, .unset, .unset, .unset, .unset] [(.int sel), (.ref b1)])) (fun _ k => XS.iloadN X33.here hx rfl (hb hby at_59) rfl k) ?_
  refine OwnFin.adv (B := T33.setTop (mkF m 62 #[.val (.int sel), .val (.int c0), .val (.int c1), .val (.int fg), .val (.ref b1), .unset, .unset, .unset, .unset, .unset, .unset, .unset, .unset, .unset, .unset, .unset, .unset] [(.int (7 : Int32)), (.int sel), (.ref b1)])) (fun _ k => XS.bipush X33.here hx rfl (hb hby at_60) k) ?_
  refine OwnFin.adv (B := T33.setTop (mkF m 63 #[.val (.int sel), .val (.int c0), .val (.int c1), .val (.int fg), .val (.ref b1), .unset, .unset, .unset, .unset, .unset, .unset, .unset, .unset, .unset, .unset, .unset, .unset] [(.int (sel &&& (7 : Int32))), (.ref b1)])) (fun _ k => XS.iand X33.here hx rfl (hb hby at_62) rfl k) ?_
  have J64 : ∀ (sa : Addr) (TJ : State) (LJ : List Loc) (XJ : Stand p l e room_1 s m #[(.int sel), (.int c0), (.int c1), (.int fg)] below meth c TJ LJ 1 8) (eJ : TJ.heap = h33) (NJ : Fr n0 LJ), OwnFin p.tables e below P' (TJ.setTop (mkF m 64 #[.val (.int sel), .val (.int c0), .val (.int c1), .val (.int fg), .val (.ref b1), .unset, .unset, .unset, .unset, .unset, .unset, .unset, .unset, .unset, .unset, .unset, .unset] [(.ref sa)])) := by
    intro sa TJ LJ XJ eJ NJ 
    refine OwnFin.adv (B := TJ.setTop (mkF m 66 #[.val (.int sel), .val (.int c0), .val (.int c1), .val (.int fg), .val (.ref b1), .val (.ref sa), .unset, .unset, .unset, .unset, .unset, .unset, .unset, .unset, .unset, .unset, .unset] [])) (fun _ k => XS.astore XJ.here hx rfl (hb hby at_64) rfl rfl (l' := #[.val (.int sel), .val (.int c0), .val (.int c1), .val (.int fg), .val (.ref b1), .val (.ref sa), .unset, .unset, .unset, .unset, .unset, .unset, .unset, .unset, .unset, .unset, .unset]) rfl k) ?_
    refine OwnFin.adv (B := TJ.setTop (mkF m 67 #[.val (.int sel), .val (.int c0), .val (.int c1), .val (.int fg), .val (.ref b1), .val (.ref sa), .unset, .unset, .unset, .unset, .unset, .unset, .unset, .unset, .unset, .unset, .unset] [(.int fg)])) (fun _ k => XS.iloadN XJ.here hx rfl (hb hby at_66) rfl k) ?_
    refine OwnFin.adv (B := TJ.setTop (mkF m 68 #[.val (.int sel), .val (.int c0), .val (.int c1), .val (.int fg), .val (.ref b1), .val (.ref sa), .unset, .unset, .unset, .unset, .unset, .unset, .unset, .unset, .unset, .unset, .unset] [(.int (1 : Int32)), (.int fg)])) (fun _ k => XS.iconst XJ.here hx rfl (hb hby at_67) k) ?_
    refine OwnFin.adv (B := TJ.setTop (mkF m 69 #[.val (.int sel), .val (.int c0), .val (.int c1), .val (.int fg), .val (.ref b1), .val (.ref sa), .unset, .unset, .unset, .unset, .unset, .unset, .unset, .unset, .unset, .unset, .unset] [(.int (fg &&& (1 : Int32)))])) (fun _ k => XS.iand XJ.here hx rfl (hb hby at_68) rfl k) ?_
    have J77 : ∀ (x6 : Int32) (TJ : State) (LJ : List Loc) (XJ : Stand p l e room_1 s m #[(.int sel), (.int c0), (.int c1), (.int fg)] below meth c TJ LJ 1 8) (eJ : TJ.heap = h33) (NJ : Fr n0 LJ) (h01_x6 : x6 = 0 ∨ x6 = 1), OwnFin p.tables e below P' (TJ.setTop (mkF m 77 #[.val (.int sel), .val (.int c0), .val (.int c1), .val (.int fg), .val (.ref b1), .val (.ref sa), .unset, .unset, .unset, .unset, .unset, .unset, .unset, .unset, .unset, .unset, .unset] [(.int x6)])) := by
      intro x6 TJ LJ XJ eJ NJ h01_x6
      refine OwnFin.adv (B := TJ.setTop (mkF m 79 #[.val (.int sel), .val (.int c0), .val (.int c1), .val (.int fg), .val (.ref b1), .val (.ref sa), .val (.int x6), .unset, .unset, .unset, .unset, .unset, .unset, .unset, .unset, .unset, .unset] [])) (fun _ k => XS.istore XJ.here hx rfl (hb hby at_77) rfl (l' := #[.val (.int sel), .val (.int c0), .val (.int c1), .val (.int fg), .val (.ref b1), .val (.ref sa), .val (.int x6), .unset, .unset, .unset, .unset, .unset, .unset, .unset, .unset, .unset, .unset]) rfl k) ?_
      refine OwnFin.adv (B := TJ.setTop (mkF m 80 #[.val (.int sel), .val (.int c0), .val (.int c1), .val (.int fg), .val (.ref b1), .val (.ref sa), .val (.int x6), .unset, .unset, .unset, .unset, .unset, .unset, .unset, .unset, .unset, .unset] [(.int fg)])) (fun _ k => XS.iloadN XJ.here hx rfl (hb hby at_79) rfl k) ?_
      refine OwnFin.adv (B := TJ.setTop (mkF m 81 #[.val (.int sel), .val (.int c0), .val (.int c1), .val (.int fg), .val (.ref b1), .val (.ref sa), .val (.int x6), .unset, .unset, .unset, .unset, .unset, .unset, .unset, .unset, .unset, .unset] [(.int (2 : Int32)), (.int fg)])) (fun _ k => XS.iconst XJ.here hx rfl (hb hby at_80) k) ?_
      refine OwnFin.adv (B := TJ.setTop (mkF m 82 #[.val (.int sel), .val (.int c0), .val (.int c1), .val (.int fg), .val (.ref b1), .val (.ref sa), .val (.int x6), .unset, .unset, .unset, .unset, .unset, .unset, .unset, .unset, .unset, .unset] [(.int (fg &&& (2 : Int32)))])) (fun _ k => XS.iand XJ.here hx rfl (hb hby at_81) rfl k) ?_
      have J90 : ∀ (x7 : Int32) (TJ : State) (LJ : List Loc) (XJ : Stand p l e room_1 s m #[(.int sel), (.int c0), (.int c1), (.int fg)] below meth c TJ LJ 1 8) (eJ : TJ.heap = h33) (NJ : Fr n0 LJ) (h01_x7 : x7 = 0 ∨ x7 = 1), OwnFin p.tables e below P' (TJ.setTop (mkF m 90 #[.val (.int sel), .val (.int c0), .val (.int c1), .val (.int fg), .val (.ref b1), .val (.ref sa), .val (.int x6), .unset, .unset, .unset, .unset, .unset, .unset, .unset, .unset, .unset, .unset] [(.int x7)])) := by
        intro x7 TJ LJ XJ eJ NJ h01_x7
        refine OwnFin.adv (B := TJ.setTop (mkF m 92 #[.val (.int sel), .val (.int c0), .val (.int c1), .val (.int fg), .val (.ref b1), .val (.ref sa), .val (.int x6), .val (.int x7), .unset, .unset, .unset, .unset, .unset, .unset, .unset, .unset, .unset] [])) (fun _ k => XS.istore XJ.here hx rfl (hb hby at_90) rfl (l' := #[.val (.int sel), .val (.int c0), .val (.int c1), .val (.int fg), .val (.ref b1), .val (.ref sa), .val (.int x6), .val (.int x7), .unset, .unset, .unset, .unset, .unset, .unset, .unset, .unset, .unset]) rfl k) ?_
        refine OwnFin.adv (B := TJ.setTop (mkF m 93 #[.val (.int sel), .val (.int c0), .val (.int c1), .val (.int fg), .val (.ref b1), .val (.ref sa), .val (.int x6), .val (.int x7), .unset, .unset, .unset, .unset, .unset, .unset, .unset, .unset, .unset] [(.int fg)])) (fun _ k => XS.iloadN XJ.here hx rfl (hb hby at_92) rfl k) ?_
        refine OwnFin.adv (B := TJ.setTop (mkF m 94 #[.val (.int sel), .val (.int c0), .val (.int c1), .val (.int fg), .val (.ref b1), .val (.ref sa), .val (.int x6), .val (.int x7), .unset, .unset, .unset, .unset, .unset, .unset, .unset, .unset, .unset] [(.int (4 : Int32)), (.int fg)])) (fun _ k => XS.iconst XJ.here hx rfl (hb hby at_93) k) ?_
        refine OwnFin.adv (B := TJ.setTop (mkF m 95 #[.val (.int sel), .val (.int c0), .val (.int c1), .val (.int fg), .val (.ref b1), .val (.ref sa), .val (.int x6), .val (.int x7), .unset, .unset, .unset, .unset, .unset, .unset, .unset, .unset, .unset] [(.int (fg &&& (4 : Int32)))])) (fun _ k => XS.iand XJ.here hx rfl (hb hby at_94) rfl k) ?_
        have J103 : ∀ (x8 : Int32) (TJ : State) (LJ : List Loc) (XJ : Stand p l e room_1 s m #[(.int sel), (.int c0), (.int c1), (.int fg)] below meth c TJ LJ 1 8) (eJ : TJ.heap = h33) (NJ : Fr n0 LJ) (h01_x8 : x8 = 0 ∨ x8 = 1), OwnFin p.tables e below P' (TJ.setTop (mkF m 103 #[.val (.int sel), .val (.int c0), .val (.int c1), .val (.int fg), .val (.ref b1), .val (.ref sa), .val (.int x6), .val (.int x7), .unset, .unset, .unset, .unset, .unset, .unset, .unset, .unset, .unset] [(.int x8)])) := by
          intro x8 TJ LJ XJ eJ NJ h01_x8
          refine OwnFin.adv (B := TJ.setTop (mkF m 105 #[.val (.int sel), .val (.int c0), .val (.int c1), .val (.int fg), .val (.ref b1), .val (.ref sa), .val (.int x6), .val (.int x7), .val (.int x8), .unset, .unset, .unset, .unset, .unset, .unset, .unset, .unset] [])) (fun _ k => XS.istore XJ.here hx rfl (hb hby at_103) rfl (l' := #[.val (.int sel), .val (.int c0), .val (.int c1), .val (.int fg), .val (.ref b1), .val (.ref sa), .val (.int x6), .val (.int x7), .val (.int x8), .unset, .unset, .unset, .unset, .unset, .unset, .unset, .unset]) rfl k) ?_
          refine OwnFin.adv (B := TJ.setTop (mkF m 106 #[.val (.int sel), .val (.int c0), .val (.int c1), .val (.int fg), .val (.ref b1), .val (.ref sa), .val (.int x6), .val (.int x7), .val (.int x8), .unset, .unset, .unset, .unset, .unset, .unset, .unset, .unset] [(.int fg)])) (fun _ k => XS.iloadN XJ.here hx rfl (hb hby at_105) rfl k) ?_
          refine OwnFin.adv (B := TJ.setTop (mkF m 108 #[.val (.int sel), .val (.int c0), .val (.int c1), .val (.int fg), .val (.ref b1), .val (.ref sa), .val (.int x6), .val (.int x7), .val (.int x8), .unset, .unset, .unset, .unset, .unset, .unset, .unset, .unset] [(.int (8 : Int32)), (.int fg)])) (fun _ k => XS.bipush XJ.here hx rfl (hb hby at_106) k) ?_
          refine OwnFin.adv (B := TJ.setTop (mkF m 109 #[.val (.int sel), .val (.int c0), .val (.int c1), .val (.int fg), .val (.ref b1), .val (.ref sa), .val (.int x6), .val (.int x7), .val (.int x8), .unset, .unset, .unset, .unset, .unset, .unset, .unset, .unset] [(.int (fg &&& (8 : Int32)))])) (fun _ k => XS.iand XJ.here hx rfl (hb hby at_108) rfl k) ?_
          have J117 : ∀ (x9 : Int32) (TJ : State) (LJ : List Loc) (XJ : Stand p l e room_1 s m #[(.int sel), (.int c0), (.int c1), (.int fg)] below meth c TJ LJ 1 8) (eJ : TJ.heap = h33) (NJ : Fr n0 LJ) (h01_x9 : x9 = 0 ∨ x9 = 1), OwnFin p.tables e below P' (TJ.setTop (mkF m 117 #[.val (.int sel), .val (.int c0), .val (.int c1), .val (.int fg), .val (.ref b1), .val (.ref sa), .val (.int x6), .val (.int x7), .val (.int x8), .unset, .unset, .unset, .unset, .unset, .unset, .unset, .unset] [(.int x9)])) := by
            intro x9 TJ LJ XJ eJ NJ h01_x9
            refine OwnFin.adv (B := TJ.setTop (mkF m 119 #[.val (.int sel), .val (.int c0), .val (.int c1), .val (.int fg), .val (.ref b1), .val (.ref sa), .val (.int x6), .val (.int x7), .val (.int x8), .val (.int x9), .unset, .unset, .unset, .unset, .unset, .unset, .unset] [])) (fun _ k => XS.istore XJ.here hx rfl (hb hby at_117) rfl (l' := #[.val (.int sel), .val (.int c0), .val (.int c1), .val (.int fg), .val (.ref b1), .val (.ref sa), .val (.int x6), .val (.int x7), .val (.int x8), .val (.int x9), .unset, .unset, .unset, .unset, .unset, .unset, .unset]) rfl k) ?_
            refine OwnFin.adv (B := TJ.setTop (mkF m 120 #[.val (.int sel), .val (.int c0), .val (.int c1), .val (.int fg), .val (.ref b1), .val (.ref sa), .val (.int x6), .val (.int x7), .val (.int x8), .val (.int x9), .unset, .unset, .unset, .unset, .unset, .unset, .unset] [(.int fg)])) (fun _ k => XS.iloadN XJ.here hx rfl (hb hby at_119) rfl k) ?_
            refine OwnFin.adv (B := TJ.setTop (mkF m 121 #[.val (.int sel), .val (.int c0), .val (.int c1), .val (.int fg), .val (.ref b1), .val (.ref sa), .val (.int x6), .val (.int x7), .val (.int x8), .val (.int x9), .unset, .unset, .unset, .unset, .unset, .unset, .unset] [(.int (4 : Int32)), (.int fg)])) (fun _ k => XS.iconst XJ.here hx rfl (hb hby at_120) k) ?_
            refine OwnFin.adv (B := TJ.setTop (mkF m 122 #[.val (.int sel), .val (.int c0), .val (.int c1), .val (.int fg), .val (.ref b1), .val (.ref sa), .val (.int x6), .val (.int x7), .val (.int x8), .val (.int x9), .unset, .unset, .unset, .unset, .unset, .unset, .unset] [(.int ((fg.toUInt32 >>> ((4 : Int32) &&& 31).toUInt32).toInt32))])) (fun _ k => XS.iushr XJ.here hx rfl (hb hby at_121) rfl k) ?_
            refine OwnFin.adv (B := TJ.setTop (mkF m 125 #[.val (.int sel), .val (.int c0), .val (.int c1), .val (.int fg), .val (.ref b1), .val (.ref sa), .val (.int x6), .val (.int x7), .val (.int x8), .val (.int x9), .unset, .unset, .unset, .unset, .unset, .unset, .unset] [(.int (255 : Int32)), (.int ((fg.toUInt32 >>> ((4 : Int32) &&& 31).toUInt32).toInt32))])) (fun _ k => XS.sipush XJ.here hx rfl (hb hby at_122) k) ?_
            refine OwnFin.adv (B := TJ.setTop (mkF m 126 #[.val (.int sel), .val (.int c0), .val (.int c1), .val (.int fg), .val (.ref b1), .val (.ref sa), .val (.int x6), .val (.int x7), .val (.int x8), .val (.int x9), .unset, .unset, .unset, .unset, .unset, .unset, .unset] [(.int (((fg.toUInt32 >>> ((4 : Int32) &&& 31).toUInt32).toInt32) &&& (255 : Int32)))])) (fun _ k => XS.iand XJ.here hx rfl (hb hby at_125) rfl k) ?_
            refine OwnFin.adv (B := TJ.setTop (mkF m 127 #[.val (.int sel), .val (.int c0), .val (.int c1), .val (.int fg), .val (.ref b1), .val (.ref sa), .val (.int x6), .val (.int x7), .val (.int x8), .val (.int x9), .unset, .unset, .unset, .unset, .unset, .unset, .unset] [(.int (3 : Int32)), (.int (((fg.toUInt32 >>> ((4 : Int32) &&& 31).toUInt32).toInt32) &&& (255 : Int32)))])) (fun _ k => XS.iconst XJ.here hx rfl (hb hby at_126) k) ?_
            refine OwnFin.adv (B := TJ.setTop (mkF m 128 #[.val (.int sel), .val (.int c0), .val (.int c1), .val (.int fg), .val (.ref b1), .val (.ref sa), .val (.int x6), .val (.int x7), .val (.int x8), .val (.int x9), .unset, .unset, .unset, .unset, .unset, .unset, .unset] [(.int ((((fg.toUInt32 >>> ((4 : Int32) &&& 31).toUInt32).toInt32) &&& (255 : Int32)) % (3 : Int32)))])) (fun _ k => iremM (g := (mkF m 127 #[.val (.int sel), .val (.int c0), .val (.int c1), .val (.int fg), .val (.ref b1), .val (.ref sa), .val (.int x6), .val (.int x7), .val (.int x8), .val (.int x9), .unset, .unset, .unset, .unset, .unset, .unset, .unset] [(.int (3 : Int32)), (.int (((fg.toUInt32 >>> ((4 : Int32) &&& 31).toUInt32).toInt32) &&& (255 : Int32)))])) XJ hx rfl (hb hby at_127) rfl (by decide) k) ?_
            refine OwnFin.adv (B := TJ.setTop (mkF m 130 #[.val (.int sel), .val (.int c0), .val (.int c1), .val (.int fg), .val (.ref b1), .val (.ref sa), .val (.int x6), .val (.int x7), .val (.int x8), .val (.int x9), .val (.int ((((fg.toUInt32 >>> ((4 : Int32) &&& 31).toUInt32).toInt32) &&& (255 : Int32)) % (3 : Int32))), .unset, .unset, .unset, .unset, .unset, .unset] [])) (fun _ k => XS.istore XJ.here hx rfl (hb hby at_128) rfl (l' := #[.val (.int sel), .val (.int c0), .val (.int c1), .val (.int fg), .val (.ref b1), .val (.ref sa), .val (.int x6), .val (.int x7), .val (.int x8), .val (.int x9), .val (.int ((((fg.toUInt32 >>> ((4 : Int32) &&& 31).toUInt32).toInt32) &&& (255 : Int32)) % (3 : Int32))), .unset, .unset, .unset, .unset, .unset, .unset]) rfl k) ?_
            refine OwnFin.adv (B := TJ.setTop (mkF m 131 #[.val (.int sel), .val (.int c0), .val (.int c1), .val (.int fg), .val (.ref b1), .val (.ref sa), .val (.int x6), .val (.int x7), .val (.int x8), .val (.int x9), .val (.int ((((fg.toUInt32 >>> ((4 : Int32) &&& 31).toUInt32).toInt32) &&& (255 : Int32)) % (3 : Int32))), .unset, .unset, .unset, .unset, .unset, .unset] [(.int c0)])) (fun _ k => XS.iloadN XJ.here hx rfl (hb hby at_130) rfl k) ?_
            refine OwnFin.adv (B := TJ.setTop (mkF m 134 #[.val (.int sel), .val (.int c0), .val (.int c1), .val (.int fg), .val (.ref b1), .val (.ref sa), .val (.int x6), .val (.int x7), .val (.int x8), .val (.int x9), .val (.int ((((fg.toUInt32 >>> ((4 : Int32) &&& 31).toUInt32).toInt32) &&& (255 : Int32)) % (3 : Int32))), .unset, .unset, .unset, .unset, .unset, .unset] [(.int (255 : Int32)), (.int c0)])) (fun _ k => XS.sipush XJ.here hx rfl (hb hby at_131) k) ?_
            refine OwnFin.adv (B := TJ.setTop (mkF m 135 #[.val (.int sel), .val (.int c0), .val (.int c1), .val (.int fg), .val (.ref b1), .val (.ref sa), .val (.int x6), .val (.int x7), .val (.int x8), .val (.int x9), .val (.int ((((fg.toUInt32 >>> ((4 : Int32) &&& 31).toUInt32).toInt32) &&& (255 : Int32)) % (3 : Int32))), .unset, .unset, .unset, .unset, .unset, .unset] [(.int (c0 &&& (255 : Int32)))])) (fun _ k => XS.iand XJ.here hx rfl (hb hby at_134) rfl k) ?_
            refine OwnFin.adv (B := TJ.setTop (mkF m 136 #[.val (.int sel), .val (.int c0), .val (.int c1), .val (.int fg), .val (.ref b1), .val (.ref sa), .val (.int x6), .val (.int x7), .val (.int x8), .val (.int x9), .val (.int ((((fg.toUInt32 >>> ((4 : Int32) &&& 31).toUInt32).toInt32) &&& (255 : Int32)) % (3 : Int32))), .unset, .unset, .unset, .unset, .unset, .unset] [(.int ((c0 &&& (255 : Int32)).toUInt32.toUInt16.toUInt32.toInt32))])) (fun _ k => XS.i2c XJ.here hx rfl (hb hby at_135) rfl k) ?_
            rw [show (((c0 &&& (255 : Int32)).toUInt32.toUInt16.toUInt32.toInt32) : Int32) = (c0 &&& (255 : Int32)) from i2c_mask _]
            refine OwnFin.adv (B := TJ.setTop (mkF m 138 #[.val (.int sel), .val (.int c0), .val (.int c1), .val (.int fg), .val (.ref b1), .val (.ref sa), .val (.int x6), .val (.int x7), .val (.int x8), .val (.int x9), .val (.int ((((fg.toUInt32 >>> ((4 : Int32) &&& 31).toUInt32).toInt32) &&& (255 : Int32)) % (3 : Int32))), .val (.int (c0 &&& (255 : Int32))), .unset, .unset, .unset, .unset, .unset] [])) (fun _ k => XS.istore XJ.here hx rfl (hb hby at_136) rfl (l' := #[.val (.int sel), .val (.int c0), .val (.int c1), .val (.int fg), .val (.ref b1), .val (.ref sa), .val (.int x6), .val (.int x7), .val (.int x8), .val (.int x9), .val (.int ((((fg.toUInt32 >>> ((4 : Int32) &&& 31).toUInt32).toInt32) &&& (255 : Int32)) % (3 : Int32))), .val (.int (c0 &&& (255 : Int32))), .unset, .unset, .unset, .unset, .unset]) rfl k) ?_
            refine OwnFin.adv (B := TJ.setTop (mkF m 139 #[.val (.int sel), .val (.int c0), .val (.int c1), .val (.int fg), .val (.ref b1), .val (.ref sa), .val (.int x6), .val (.int x7), .val (.int x8), .val (.int x9), .val (.int ((((fg.toUInt32 >>> ((4 : Int32) &&& 31).toUInt32).toInt32) &&& (255 : Int32)) % (3 : Int32))), .val (.int (c0 &&& (255 : Int32))), .unset, .unset, .unset, .unset, .unset] [(.int c1)])) (fun _ k => XS.iloadN XJ.here hx rfl (hb hby at_138) rfl k) ?_
            refine OwnFin.adv (B := TJ.setTop (mkF m 142 #[.val (.int sel), .val (.int c0), .val (.int c1), .val (.int fg), .val (.ref b1), .val (.ref sa), .val (.int x6), .val (.int x7), .val (.int x8), .val (.int x9), .val (.int ((((fg.toUInt32 >>> ((4 : Int32) &&& 31).toUInt32).toInt32) &&& (255 : Int32)) % (3 : Int32))), .val (.int (c0 &&& (255 : Int32))), .unset, .unset, .unset, .unset, .unset] [(.int (255 : Int32)), (.int c1)])) (fun _ k => XS.sipush XJ.here hx rfl (hb hby at_139) k) ?_
            refine OwnFin.adv (B := TJ.setTop (mkF m 143 #[.val (.int sel), .val (.int c0), .val (.int c1), .val (.int fg), .val (.ref b1), .val (.ref sa), .val (.int x6), .val (.int x7), .val (.int x8), .val (.int x9), .val (.int ((((fg.toUInt32 >>> ((4 : Int32) &&& 31).toUInt32).toInt32) &&& (255 : Int32)) % (3 : Int32))), .val (.int (c0 &&& (255 : Int32))), .unset, .unset, .unset, .unset, .unset] [(.int (c1 &&& (255 : Int32)))])) (fun _ k => XS.iand XJ.here hx rfl (hb hby at_142) rfl k) ?_
            refine OwnFin.adv (B := TJ.setTop (mkF m 144 #[.val (.int sel), .val (.int c0), .val (.int c1), .val (.int fg), .val (.ref b1), .val (.ref sa), .val (.int x6), .val (.int x7), .val (.int x8), .val (.int x9), .val (.int ((((fg.toUInt32 >>> ((4 : Int32) &&& 31).toUInt32).toInt32) &&& (255 : Int32)) % (3 : Int32))), .val (.int (c0 &&& (255 : Int32))), .unset, .unset, .unset, .unset, .unset] [(.int ((c1 &&& (255 : Int32)).toUInt32.toUInt16.toUInt32.toInt32))])) (fun _ k => XS.i2c XJ.here hx rfl (hb hby at_143) rfl k) ?_
            rw [show (((c1 &&& (255 : Int32)).toUInt32.toUInt16.toUInt32.toInt32) : Int32) = (c1 &&& (255 : Int32)) from i2c_mask _]
            refine OwnFin.adv (B := TJ.setTop (mkF m 146 #[.val (.int sel), .val (.int c0), .val (.int c1), .val (.int fg), .val (.ref b1), .val (.ref sa), .val (.int x6), .val (.int x7), .val (.int x8), .val (.int x9), .val (.int ((((fg.toUInt32 >>> ((4 : Int32) &&& 31).toUInt32).toInt32) &&& (255 : Int32)) % (3 : Int32))), .val (.int (c0 &&& (255 : Int32))), .val (.int (c1 &&& (255 : Int32))), .unset, .unset, .unset, .unset] [])) (fun _ k => XS.istore XJ.here hx rfl (hb hby at_144) rfl (l' := #[.val (.int sel), .val (.int c0), .val (.int c1), .val (.int fg), .val (.ref b1), .val (.ref sa), .val (.int x6), .val (.int x7), .val (.int x8), .val (.int x9), .val (.int ((((fg.toUInt32 >>> ((4 : Int32) &&& 31).toUInt32).toInt32) &&& (255 : Int32)) % (3 : Int32))), .val (.int (c0 &&& (255 : Int32))), .val (.int (c1 &&& (255 : Int32))), .unset, .unset, .unset, .unset]) rfl k) ?_
            refine OwnFin.adv (B := TJ.setTop (mkF m 148 #[.val (.int sel), .val (.int c0), .val (.int c1), .val (.int fg), .val (.ref b1), .val (.ref sa), .val (.int x6), .val (.int x7), .val (.int x8), .val (.int x9), .val (.int ((((fg.toUInt32 >>> ((4 : Int32) &&& 31).toUInt32).toInt32) &&& (255 : Int32)) % (3 : Int32))), .val (.int (c0 &&& (255 : Int32))), .val (.int (c1 &&& (255 : Int32))), .unset, .unset, .unset, .unset] [(.int ((((fg.toUInt32 >>> ((4 : Int32) &&& 31).toUInt32).toInt32) &&& (255 : Int32)) % (3 : Int32)))])) (fun _ k => XS.iload XJ.here hx rfl (hb hby at_146) rfl k) ?_
            have J204 : ∀ (tx : Addr) (hJ : Heap) (vmJ : Vm) (kJ : Nat) (TJ : State) (LJ : List Loc) (XJ : Stand p l e room_1 (s.setVm vmJ) m #[(.int sel), (.int c0), (.int c1), (.int fg)] below meth c TJ LJ 12 40) (eJ : TJ.heap = hJ) (NJ : Fr n0 LJ) (hSJ : s.Since vmJ kJ) (hkJ : kJ ≤ hJ.size) (hZ : Z.Warmed39 (s.setVm vmJ).vm) (hown : (s.setVm vmJ).vm.findClass "com/example/klotho/klotho/WorkflowOutcomeIsRefusedPinLaw" = some m.cls) (OJ : Old Z n0 hJ), OwnFin p.tables e below P' (TJ.setTop (mkF m 204 #[.val (.int sel), .val (.int c0), .val (.int c1), .val (.int fg), .val (.ref b1), .val (.ref sa), .val (.int x6), .val (.int x7), .val (.int x8), .val (.int x9), .val (.int ((((fg.toUInt32 >>> ((4 : Int32) &&& 31).toUInt32).toInt32) &&& (255 : Int32)) % (3 : Int32))), .val (.int (c0 &&& (255 : Int32))), .val (.int (c1 &&& (255 : Int32))), .val (.ref tx), .unset, .unset, .unset] [])) := by
              intro tx hJ vmJ kJ TJ LJ XJ eJ NJ hSJ hkJ hZ hown OJ 
              have szJ : n0 ≤ hJ.size := by have := OJ.1; have := OJ.2.1; omega
              refine OwnFin.adv (B := TJ.setTop (mkF m 206 #[.val (.int sel), .val (.int c0), .val (.int c1), .val (.int fg), .val (.ref b1), .val (.ref sa), .val (.int x6), .val (.int x7), .val (.int x8), .val (.int x9), .val (.int ((((fg.toUInt32 >>> ((4 : Int32) &&& 31).toUInt32).toInt32) &&& (255 : Int32)) % (3 : Int32))), .val (.int (c0 &&& (255 : Int32))), .val (.int (c1 &&& (255 : Int32))), .val (.ref tx), .unset, .unset, .unset] [(.int x9)])) (fun _ k => XS.iload XJ.here hx rfl (hb hby at_204) rfl k) ?_
              have J217 : ∀ (tx : Addr) (rs : Value) (hJ : Heap) (vmJ : Vm) (kJ : Nat) (TJ : State) (LJ : List Loc) (XJ : Stand p l e room_1 (s.setVm vmJ) m #[(.int sel), (.int c0), (.int c1), (.int fg)] below meth c TJ LJ 13 41) (eJ : TJ.heap = hJ) (NJ : Fr n0 LJ) (hSJ : s.Since vmJ kJ) (hkJ : kJ ≤ hJ.size) (hZ : Z.Warmed39 (s.setVm vmJ).vm) (hown : (s.setVm vmJ).vm.findClass "com/example/klotho/klotho/WorkflowOutcomeIsRefusedPinLaw" = some m.cls) (OJ : Old Z n0 hJ) (hr_rs : rs.isRef = true), OwnFin p.tables e below P' (TJ.setTop (mkF m 217 #[.val (.int sel), .val (.int c0), .val (.int c1), .val (.int fg), .val (.ref b1), .val (.ref sa), .val (.int x6), .val (.int x7), .val (.int x8), .val (.int x9), .val (.int ((((fg.toUInt32 >>> ((4 : Int32) &&& 31).toUInt32).toInt32) &&& (255 : Int32)) % (3 : Int32))), .val (.int (c0 &&& (255 : Int32))), .val (.int (c1 &&& (255 : Int32))), .val (.ref tx), .unset, .unset, .unset] [rs])) := by
                intro tx rs hJ vmJ kJ TJ LJ XJ eJ NJ hSJ hkJ hZ hown OJ hr_rs
                have szJ : n0 ≤ hJ.size := by have := OJ.1; have := OJ.2.1; omega
                refine OwnFin.adv (B := TJ.setTop (mkF m 219 #[.val (.int sel), .val (.int c0), .val (.int c1), .val (.int fg), .val (.ref b1), .val (.ref sa), .val (.int x6), .val (.int x7), .val (.int x8), .val (.int x9), .val (.int ((((fg.toUInt32 >>> ((4 : Int32) &&& 31).toUInt32).toInt32) &&& (255 : Int32)) % (3 : Int32))), .val (.int (c0 &&& (255 : Int32))), .val (.int (c1 &&& (255 : Int32))), .val (.ref tx), .val rs, .unset, .unset] [])) (fun _ k => XS.astore XJ.here hx rfl (hb hby at_217) rfl hr_rs (l' := #[.val (.int sel), .val (.int c0), .val (.int c1), .val (.int fg), .val (.ref b1), .val (.ref sa), .val (.int x6), .val (.int x7), .val (.int x8), .val (.int x9), .val (.int ((((fg.toUInt32 >>> ((4 : Int32) &&& 31).toUInt32).toInt32) &&& (255 : Int32)) % (3 : Int32))), .val (.int (c0 &&& (255 : Int32))), .val (.int (c1 &&& (255 : Int32))), .val (.ref tx), .val rs, .unset, .unset]) (by rcases ref_cases hr_rs with rfl | ⟨_, rfl⟩ <;> rfl) k) ?_
                refine OwnFin.adv (B := TJ.setTop (mkF m 221 #[.val (.int sel), .val (.int c0), .val (.int c1), .val (.int fg), .val (.ref b1), .val (.ref sa), .val (.int x6), .val (.int x7), .val (.int x8), .val (.int x9), .val (.int ((((fg.toUInt32 >>> ((4 : Int32) &&& 31).toUInt32).toInt32) &&& (255 : Int32)) % (3 : Int32))), .val (.int (c0 &&& (255 : Int32))), .val (.int (c1 &&& (255 : Int32))), .val (.ref tx), .val rs, .unset, .unset] [(.int x8)])) (fun _ k => XS.iload XJ.here hx rfl (hb hby at_219) rfl k) ?_
                have J241 : ∀ (tx : Addr) (rs : Value) (fl : Value) (hJ : Heap) (vmJ : Vm) (kJ : Nat) (TJ : State) (LJ : List Loc) (XJ : Stand p l e room_1 (s.setVm vmJ) m #[(.int sel), (.int c0), (.int c1), (.int fg)] below meth c TJ LJ 20 104) (eJ : TJ.heap = hJ) (NJ : Fr n0 LJ) (hSJ : s.Since vmJ kJ) (hkJ : kJ ≤ hJ.size) (hZ : Z.Warmed39 (s.setVm vmJ).vm) (hown : (s.setVm vmJ).vm.findClass "com/example/klotho/klotho/WorkflowOutcomeIsRefusedPinLaw" = some m.cls) (OJ : Old Z n0 hJ) (hr_rs : rs.isRef = true) (hr_fl : fl.isRef = true), OwnFin p.tables e below P' (TJ.setTop (mkF m 241 #[.val (.int sel), .val (.int c0), .val (.int c1), .val (.int fg), .val (.ref b1), .val (.ref sa), .val (.int x6), .val (.int x7), .val (.int x8), .val (.int x9), .val (.int ((((fg.toUInt32 >>> ((4 : Int32) &&& 31).toUInt32).toInt32) &&& (255 : Int32)) % (3 : Int32))), .val (.int (c0 &&& (255 : Int32))), .val (.int (c1 &&& (255 : Int32))), .val (.ref tx), .val rs, .unset, .unset] [fl])) := by
                  intro tx rs fl hJ vmJ kJ TJ LJ XJ eJ NJ hSJ hkJ hZ hown OJ hr_rs hr_fl
                  have szJ : n0 ≤ hJ.size := by have := OJ.1; have := OJ.2.1; omega
                  refine OwnFin.adv (B := TJ.setTop (mkF m 243 #[.val (.int sel), .val (.int c0), .val (.int c1), .val (.int fg), .val (.ref b1), .val (.ref sa), .val (.int x6), .val (.int x7), .val (.int x8), .val (.int x9), .val (.int ((((fg.toUInt32 >>> ((4 : Int32) &&& 31).toUInt32).toInt32) &&& (255 : Int32)) % (3 : Int32))), .val (.int (c0 &&& (255 : Int32))), .val (.int (c1 &&& (255 : Int32))), .val (.ref tx), .val rs, .val fl, .unset] [])) (fun _ k => XS.astore XJ.here hx rfl (hb hby at_241) rfl hr_fl (l' := #[.val (.int sel), .val (.int c0), .val (.int c1), .val (.int fg), .val (.ref b1), .val (.ref sa), .val (.int x6), .val (.int x7), .val (.int x8), .val (.int x9), .val (.int ((((fg.toUInt32 >>> ((4 : Int32) &&& 31).toUInt32).toInt32) &&& (255 : Int32)) % (3 : Int32))), .val (.int (c0 &&& (255 : Int32))), .val (.int (c1 &&& (255 : Int32))), .val (.ref tx), .val rs, .val fl, .unset]) (by rcases ref_cases hr_fl with rfl | ⟨_, rfl⟩ <;> rfl) k) ?_
                  refine OwnFin.adv (B := TJ.setTop (mkF m 245 #[.val (.int sel), .val (.int c0), .val (.int c1), .val (.int fg), .val (.ref b1), .val (.ref sa), .val (.int x6), .val (.int x7), .val (.int x8), .val (.int x9), .val (.int ((((fg.toUInt32 >>> ((4 : Int32) &&& 31).toUInt32).toInt32) &&& (255 : Int32)) % (3 : Int32))), .val (.int (c0 &&& (255 : Int32))), .val (.int (c1 &&& (255 : Int32))), .val (.ref tx), .val rs, .val fl, .unset] [(.int x6)])) (fun _ k => XS.iload XJ.here hx rfl (hb hby at_243) rfl k) ?_
                  by_cases hc245 : x6 = (0 : Int32)
                  ·
                    refine OwnFin.adv (B := TJ.setTop (mkF m 273 #[.val (.int sel), .val (.int c0), .val (.int c1), .val (.int fg), .val (.ref b1), .val (.ref sa), .val (.int x6), .val (.int x7), .val (.int x8), .val (.int x9), .val (.int ((((fg.toUInt32 >>> ((4 : Int32) &&& 31).toUInt32).toInt32) &&& (255 : Int32)) % (3 : Int32))), .val (.int (c0 &&& (255 : Int32))), .val (.int (c1 &&& (255 : Int32))), .val (.ref tx), .val rs, .val fl, .unset] [])) (fun _ k => XS.ifYes XJ.here hx rfl (pc0 := 245) (pc' := 273) rfl (hb hby at_245) rfl ((if0 _ _).trans (teq hc245).1) (by decide) (by decide) k) ?_
                    refine OwnFin.adv (B := TJ.setTop (mkF m 275 #[.val (.int sel), .val (.int c0), .val (.int c1), .val (.int fg), .val (.ref b1), .val (.ref sa), .val (.int x6), .val (.int x7), .val (.int x8), .val (.int x9), .val (.int ((((fg.toUInt32 >>> ((4 : Int32) &&& 31).toUInt32).toInt32) &&& (255 : Int32)) % (3 : Int32))), .val (.int (c0 &&& (255 : Int32))), .val (.int (c1 &&& (255 : Int32))), .val (.ref tx), .val rs, .val fl, .unset] [(.int x7)])) (fun _ k => XS.iload XJ.here hx rfl (hb hby at_273) rfl k) ?_
                    by_cases hc275 : x7 = (0 : Int32)
                    ·
                      refine OwnFin.adv (B := TJ.setTop (mkF m 301 #[.val (.int sel), .val (.int c0), .val (.int c1), .val (.int fg), .val (.ref b1), .val (.ref sa), .val (.int x6), .val (.int x7), .val (.int x8), .val (.int x9), .val (.int ((((fg.toUInt32 >>> ((4 : Int32) &&& 31).toUInt32).toInt32) &&& (255 : Int32)) % (3 : Int32))), .val (.int (c0 &&& (255 : Int32))), .val (.int (c1 &&& (255 : Int32))), .val (.ref tx), .val rs, .val fl, .unset] [])) (fun _ k => XS.ifYes XJ.here hx rfl (pc0 := 275) (pc' := 301) rfl (hb hby at_275) rfl ((if0 _ _).trans (teq hc275).1) (by decide) (by decide) k) ?_
                      obtain ⟨T40, h40, X40, e40, E40, A40, D40, -, st40⟩ := newO XJ hx hZ hown (hw _ (List.mem_of_getElem? (i := 42) rfl)) (hw _ (List.mem_of_getElem? (i := 43) rfl)) (hw _ (List.mem_of_getElem? (i := 44) rfl)) eJ (g := (mkF m 301 #[.val (.int sel), .val (.int c0), .val (.int c1), .val (.int fg), .val (.ref b1), .val (.ref sa), .val (.int x6), .val (.int x7), .val (.int x8), .val (.int x9), .val (.int ((((fg.toUInt32 >>> ((4 : Int32) &&& 31).toUInt32).toInt32) &&& (255 : Int32)) % (3 : Int32))), .val (.int (c0 &&& (255 : Int32))), .val (.int (c1 &&& (255 : Int32))), .val (.ref tx), .val rs, .val fl, .unset] [])) rfl (hb hby at_301) (by decide) (by decide)
                      obtain ⟨b40, g40⟩ : ∃ z, z = hJ.size := ⟨_, rfl⟩
                      rw [← g40] at A40 D40 st40
                      have sz41 : hJ.size ≤ h40.size := E40.1
                      have lt_b40 := own_lt A40.lt
                      have F40_instanceId : Fld Z h40 b40 "com/example/klotho/klotho/WorkflowOutcome" "instanceId" "Ljava/lang/String;" .null := D40 (Or.inr (hw _ (List.mem_of_getElem? (i := 70) rfl))) (ty := (.object "java/lang/String")) (by decide)
                      have F40_status : Fld Z h40 b40 "com/example/klotho/klotho/WorkflowOutcome" "status" "Lcom/example/klotho/klotho/InstanceStatus;" .null := D40 (Or.inr (hw _ (List.mem_of_getElem? (i := 72) rfl))) (ty := (.object "com/example/klotho/klotho/InstanceStatus")) (by decide)
                      have F40_result : Fld Z h40 b40 "com/example/klotho/klotho/WorkflowOutcome" "result" "Ljava/lang/Object;" .null := D40 (Or.inr (hw _ (List.mem_of_getElem? (i := 74) rfl))) (ty := (.object "java/lang/Object")) (by decide)
                      have F40_failure : Fld Z h40 b40 "com/example/klotho/klotho/WorkflowOutcome" "failure" "Lcom/example/klotho/klotho/RecordedFailure;" .null := D40 (Or.inr (hw _ (List.mem_of_getElem? (i := 76) rfl))) (ty := (.object "com/example/klotho/klotho/RecordedFailure")) (by decide)
                      have F40_refusal : Fld Z h40 b40 "com/example/klotho/klotho/WorkflowOutcome" "refusal" "Ljava/lang/String;" .null := D40 (Or.inr (hw _ (List.mem_of_getElem? (i := 78) rfl))) (ty := (.object "java/lang/String")) (by decide)
                      refine OwnFin.adv (B := T40.setTop (mkF m 304 #[.val (.int sel), .val (.int c0), .val (.int c1), .val (.int fg), .val (.ref b1), .val (.ref sa), .val (.int x6), .val (.int x7), .val (.int x8), .val (.int x9), .val (.int ((((fg.toUInt32 >>> ((4 : Int32) &&& 31).toUInt32).toInt32) &&& (255 : Int32)) % (3 : Int32))), .val (.int (c0 &&& (255 : Int32))), .val (.int (c1 &&& (255 : Int32))), .val (.ref tx), .val rs, .val fl, .unset] [(.ref b40)])) (fun _ k => st40 _ k) ?_
                      refine OwnFin.adv (B := T40.setTop (mkF m 305 #[.val (.int sel), .val (.int c0), .val (.int c1), .val (.int fg), .val (.ref b1), .val (.ref sa), .val (.int x6), .val (.int x7), .val (.int x8), .val (.int x9), .val (.int ((((fg.toUInt32 >>> ((4 : Int32) &&& 31).toUInt32).toInt32) &&& (255 : Int32)) % (3 : Int32))), .val (.int (c0 &&& (255 : Int32))), .val (.int (c1 &&& (255 : Int32))), .val (.ref tx), .val rs, .val fl, .unset] [(.ref b40), (.ref b40)])) (fun _ k => XS.dup X40.here hx rfl (hb hby at_304) rfl rfl k) ?_
                      refine OwnFin.adv (B := T40.setTop (mkF m 307 #[.val (.int sel), .val (.int c0), .val (.int c1), .val (.int fg), .val (.ref b1), .val (.ref sa), .val (.int x6), .val (.int x7), .val (.int x8), .val (.int x9), .val (.int ((((fg.toUInt32 >>> ((4 : Int32) &&& 31).toUInt32).toInt32) &&& (255 : Int32)) % (3 : Int32))), .val (.int (c0 &&& (255 : Int32))), .val (.int (c1 &&& (255 : Int32))), .val (.ref tx), .val rs, .val fl, .unset] [(.int (105 : Int32)), (.ref b40), (.ref b40)])) (fun _ k => XS.bipush X40.here hx rfl (hb hby at_305) k) ?_
                      have Old43 : Old Z n0 h40 := (OJ.ext E40)
                      obtain ⟨_, _, ⟨T42, L42, k42, n42⟩, -, X42, ⟨Lc42, hQ42, l42, y42, z42⟩, st42⟩ := Jvm.LawKit.callS X40 hx (y := (⟨"java/lang/String", "valueOf", "(C)Ljava/lang/String;"⟩ : MethodName)) hown (mvT hZ (hw _ (List.mem_of_getElem? (i := 45) rfl))) (mvT hZ (hw _ (List.mem_of_getElem? (i := 46) rfl))) (mvT hZ (hw _ (List.mem_of_getElem? (i := 22) rfl))) (mvT hZ (hw _ (List.mem_of_getElem? (i := 47) rfl))) (by decide) (backOf (W := 2) (own_strVal l Z a0 hw [] (105 : Int32) zc h40 n0 (by omega) Old43 SCS hzc (by decide)) hZ (hw _ (List.mem_of_getElem? (i := 47) rfl)) (hw _ (List.mem_of_getElem? (i := 22) rfl)) (by decide) (by decide)) (g := (mkF m 307 #[.val (.int sel), .val (.int c0), .val (.int c1), .val (.int fg), .val (.ref b1), .val (.ref sa), .val (.int x6), .val (.int x7), .val (.int x8), .val (.int x9), .val (.int ((((fg.toUInt32 >>> ((4 : Int32) &&& 31).toUInt32).toInt32) &&& (255 : Int32)) % (3 : Int32))), .val (.int (c0 &&& (255 : Int32))), .val (.int (c1 &&& (255 : Int32))), .val (.ref tx), .val rs, .val fl, .unset] [(.int (105 : Int32)), (.ref b40), (.ref b40)])) rfl (by rw [hml]; rfl) (argsL := [(.int (105 : Int32))]) (rest := [(.ref b40), (.ref b40)]) (lenOf own_pd_x28Cx29Ljavax2flangx2fStringx3b rfl) rfl (by show 2 * 0 + _ ≤ _; exact Nat.le_of_eq rfl) (hb hby at_307) (fun _ _ => ⟨rfl, e40, (by decide : 21 + 2 ≤ _), (by decide : 109 + 5 ≤ _)⟩)
                      dsimp only [Pt.U, Pt.locs, Pt.cells, Pt.slots] at X42 l42 y42 z42 st42 hQ42
                      subst l42 y42 z42
                      obtain ⟨r42, t42, kb42, rfl, N42q, K42, ger42, get42, Er42, Fc42, Fv42, V42⟩ := hQ42
                      have N42 := Fr.app NJ N42q
                      have sz44 : h40.size ≤ T42.heap.size := K42.1
                      have lt_t42 := own_lt V42.lt
                      have lt_r42 := own_lt Er42.lt
                      refine OwnFin.adv (B := T42.setTop (mkF m 310 #[.val (.int sel), .val (.int c0), .val (.int c1), .val (.int fg), .val (.ref b1), .val (.ref sa), .val (.int x6), .val (.int x7), .val (.int x8), .val (.int x9), .val (.int ((((fg.toUInt32 >>> ((4 : Int32) &&& 31).toUInt32).toInt32) &&& (255 : Int32)) % (3 : Int32))), .val (.int (c0 &&& (255 : Int32))), .val (.int (c1 &&& (255 : Int32))), .val (.ref tx), .val rs, .val fl, .unset] [(.ref r42), (.ref b40), (.ref b40)])) (fun _ k => st42 _ k) ?_
                      refine OwnFin.adv (B := T42.setTop (mkF m 312 #[.val (.int sel), .val (.int c0), .val (.int c1), .val (.int fg), .val (.ref b1), .val (.ref sa), .val (.int x6), .val (.int x7), .val (.int x8), .val (.int x9), .val (.int ((((fg.toUInt32 >>> ((4 : Int32) &&& 31).toUInt32).toInt32) &&& (255 : Int32)) % (3 : Int32))), .val (.int (c0 &&& (255 : Int32))), .val (.int (c1 &&& (255 : Int32))), .val (.ref tx), .val rs, .val fl, .unset] [(.ref sa), (.ref r42), (.ref b40), (.ref b40)])) (fun _ k => XS.aload X42.here hx rfl (hb hby at_310) rfl rfl k) ?_
                      refine OwnFin.adv (B := T42.setTop (mkF m 314 #[.val (.int sel), .val (.int c0), .val (.int c1), .val (.int fg), .val (.ref b1), .val (.ref sa), .val (.int x6), .val (.int x7), .val (.int x8), .val (.int x9), .val (.int ((((fg.toUInt32 >>> ((4 : Int32) &&& 31).toUInt32).toInt32) &&& (255 : Int32)) % (3 : Int32))), .val (.int (c0 &&& (255 : Int32))), .val (.int (c1 &&& (255 : Int32))), .val (.ref tx), .val rs, .val fl, .unset] [rs, (.ref sa), (.ref r42), (.ref b40), (.ref b40)])) (fun _ k => XS.aload X42.here hx rfl (hb hby at_312) rfl hr_rs k) ?_
                      refine OwnFin.adv (B := T42.setTop (mkF m 316 #[.val (.int sel), .val (.int c0), .val (.int c1), .val (.int fg), .val (.ref b1), .val (.ref sa), .val (.int x6), .val (.int x7), .val (.int x8), .val (.int x9), .val (.int ((((fg.toUInt32 >>> ((4 : Int32) &&& 31).toUInt32).toInt32) &&& (255 : Int32)) % (3 : Int32))), .val (.int (c0 &&& (255 : Int32))), .val (.int (c1 &&& (255 : Int32))), .val (.ref tx), .val rs, .val fl, .unset] [fl, rs, (.ref sa), (.ref r42), (.ref b40), (.ref b40)])) (fun _ k => XS.aload X42.here hx rfl (hb hby at_314) rfl hr_fl k) ?_
                      refine OwnFin.adv (B := T42.setTop (mkF m 317 #[.val (.int sel), .val (.int c0), .val (.int c1), .val (.int fg), .val (.ref b1), .val (.ref sa), .val (.int x6), .val (.int x7), .val (.int x8), .val (.int x9), .val (.int ((((fg.toUInt32 >>> ((4 : Int32) &&& 31).toUInt32).toInt32) &&& (255 : Int32)) % (3 : Int32))), .val (.int (c0 &&& (255 : Int32))), .val (.int (c1 &&& (255 : Int32))), .val (.ref tx), .val rs, .val fl, .unset] [.null, fl, rs, (.ref sa), (.ref r42), (.ref b40), (.ref b40)])) (fun _ k => XS.aconstNull X42.here hx rfl (hb hby at_316) k) ?_
                      have Fv46_2 : Exa Z T42.heap b40 "com/example/klotho/klotho/WorkflowOutcome" := (A40.keep K42)
                      have Fv47_2 : Fld Z T42.heap b40 "com/example/klotho/klotho/WorkflowOutcome" "instanceId" "Ljava/lang/String;" .null := (F40_instanceId.keep K42 nin0)
                      have Fv48_2 : Fld Z T42.heap b40 "com/example/klotho/klotho/WorkflowOutcome" "status" "Lcom/example/klotho/klotho/InstanceStatus;" .null := (F40_status.keep K42 nin0)
                      have Fv49_2 : Fld Z T42.heap b40 "com/example/klotho/klotho/WorkflowOutcome" "result" "Ljava/lang/Object;" .null := (F40_result.keep K42 nin0)
                      have Fv50_2 : Fld Z T42.heap b40 "com/example/klotho/klotho/WorkflowOutcome" "failure" "Lcom/example/klotho/klotho/RecordedFailure;" .null := (F40_failure.keep K42 nin0)
                      have Fv51_2 : Fld Z T42.heap b40 "com/example/klotho/klotho/WorkflowOutcome" "refusal" "Ljava/lang/String;" .null := (F40_refusal.keep K42 nin0)
                      obtain ⟨_, _, ⟨T45, L45, k45, n45⟩, -, X45, ⟨Lc45, hQ45, l45, y45, z45⟩, st45⟩ := X42.specialBack hx (y := (⟨"com/example/klotho/klotho/WorkflowOutcome", "<init>", "(Ljava/lang/String;Lcom/example/klotho/klotho/InstanceStatus;Ljava/lang/Object;Lcom/example/klotho/klotho/RecordedFailure;Ljava/lang/String;)V"⟩ : MethodName)) rfl hown (mvT hZ (hw _ (List.mem_of_getElem? (i := 60) rfl))) (mvT hZ (hw _ (List.mem_of_getElem? (i := 61) rfl))) (mvT hZ (hw _ (List.mem_of_getElem? (i := 62) rfl))) (by decide) (backOf (W := 1) (own_wo5 l Z a0 hw [] b40 r42 sa rs fl .null hr_rs hr_fl rfl _ _ _ _ _ T42.heap n0 (by omega) Fv46_2 Fv47_2 Fv48_2 Fv49_2 Fv50_2 Fv51_2 (by omega)) hZ (hw _ (List.mem_of_getElem? (i := 62) rfl)) (hw _ (List.mem_of_getElem? (i := 44) rfl)) (by decide) (by decide)) (g := (mkF m 317 #[.val (.int sel), .val (.int c0), .val (.int c1), .val (.int fg), .val (.ref b1), .val (.ref sa), .val (.int x6), .val (.int x7), .val (.int x8), .val (.int x9), .val (.int ((((fg.toUInt32 >>> ((4 : Int32) &&& 31).toUInt32).toInt32) &&& (255 : Int32)) % (3 : Int32))), .val (.int (c0 &&& (255 : Int32))), .val (.int (c1 &&& (255 : Int32))), .val (.ref tx), .val rs, .val fl, .unset] [.null, fl, rs, (.ref sa), (.ref r42), (.ref b40), (.ref b40)])) rfl (by rw [hml]; rfl) (Steps.refl _) (a := b40) (argsL := [(.ref r42), (.ref sa), rs, fl, .null]) (rest := [(.ref b40)]) (lenOf own_pd_x28Ljavax2flangx2fStringx3bLcomx2fexamplex2fklothox2fklothox2fInstanceStatusx3bLjavax2flangx2fObjectx3bLcomx2fexamplex2fklothox2fklothox2fRecordedFailurex3bLjavax2flangx2fStringx3bx29V rfl) rfl (by show 2 * 0 + _ ≤ _; exact Nat.le_of_eq rfl) (hb hby at_317) (fun _ _ => ⟨rfl, rfl, (by decide : 23 + 0 ≤ _), (by decide : 114 + 0 ≤ _)⟩)
                      dsimp only [Pt.U, Pt.locs, Pt.cells, Pt.slots] at X45 l45 y45 z45 st45 hQ45
                      subst l45 y45 z45
                      obtain ⟨rfl, N45q, K45, Fr45⟩ := hQ45
                      have N45 := Fr.app N42 N45q
                      have sz52 : T42.heap.size ≤ T45.heap.size := K45.1
                      refine OwnFin.adv (B := T45.setTop (mkF m 320 #[.val (.int sel), .val (.int c0), .val (.int c1), .val (.int fg), .val (.ref b1), .val (.ref sa), .val (.int x6), .val (.int x7), .val (.int x8), .val (.int x9), .val (.int ((((fg.toUInt32 >>> ((4 : Int32) &&& 31).toUInt32).toInt32) &&& (255 : Int32)) % (3 : Int32))), .val (.int (c0 &&& (255 : Int32))), .val (.int (c1 &&& (255 : Int32))), .val (.ref tx), .val rs, .val fl, .unset] [(.ref b40)])) (fun _ k => st45.trans k) ?_
                      refine OwnFin.adv (B := T45.setTop (mkF m 322 #[.val (.int sel), .val (.int c0), .val (.int c1), .val (.int fg), .val (.ref b1), .val (.ref sa), .val (.int x6), .val (.int x7), .val (.int x8), .val (.int x9), .val (.int ((((fg.toUInt32 >>> ((4 : Int32) &&& 31).toUInt32).toInt32) &&& (255 : Int32)) % (3 : Int32))), .val (.int (c0 &&& (255 : Int32))), .val (.int (c1 &&& (255 : Int32))), .val (.ref tx), .val rs, .val fl, .val (.ref b40)] [])) (fun _ k => XS.astore X45.here hx rfl (hb hby at_320) rfl rfl (l' := #[.val (.int sel), .val (.int c0), .val (.int c1), .val (.int fg), .val (.ref b1), .val (.ref sa), .val (.int x6), .val (.int x7), .val (.int x8), .val (.int x9), .val (.int ((((fg.toUInt32 >>> ((4 : Int32) &&& 31).toUInt32).toInt32) &&& (255 : Int32)) % (3 : Int32))), .val (.int (c0 &&& (255 : Int32))), .val (.int (c1 &&& (255 : Int32))), .val (.ref tx), .val rs, .val fl, .val (.ref b40)]) rfl k) ?_
                      refine OwnFin.adv (B := T45.setTop (mkF m 324 #[.val (.int sel), .val (.int c0), .val (.int c1), .val (.int fg), .val (.ref b1), .val (.ref sa), .val (.int x6), .val (.int x7), .val (.int x8), .val (.int x9), .val (.int ((((fg.toUInt32 >>> ((4 : Int32) &&& 31).toUInt32).toInt32) &&& (255 : Int32)) % (3 : Int32))), .val (.int (c0 &&& (255 : Int32))), .val (.int (c1 &&& (255 : Int32))), .val (.ref tx), .val rs, .val fl, .val (.ref b40)] [(.ref b40)])) (fun _ k => XS.aload X45.here hx rfl (hb hby at_322) rfl rfl k) ?_
                      have Fv54_3 : Exa Z T45.heap b40 "com/example/klotho/klotho/WorkflowOutcome" := (Fv46_2.keep K45)
                      obtain ⟨cq53, kq53, q53a, q53b, q53c⟩ := isOf hZ rfl Fv54_3
                      obtain ⟨_, _, ⟨T53, L53, k53, n53⟩, -, X53, ⟨Lc53, hQ53, l53, y53, z53⟩, st53⟩ := X45.virtualBack hx (y := (⟨"com/example/klotho/klotho/WorkflowOutcome", "isRefused", "()Z"⟩ : MethodName)) (z := (⟨"com/example/klotho/klotho/WorkflowOutcome", "isRefused", "()Z"⟩ : MethodName)) hown (mvT hZ (hw _ (List.mem_of_getElem? (i := 79) rfl))) (mvT hZ (hw _ (List.mem_of_getElem? (i := 80) rfl))) (notFace_of_selects (args := #[]) (mvT hZ (hw _ (List.mem_of_getElem? (i := 82) rfl)))) (mvT hZ (hw _ (List.mem_of_getElem? (i := 82) rfl))) (mvT hZ (hw _ (List.mem_of_getElem? (i := 81) rfl))) (by decide) (backOf (W := 0) (own_refN l Z a0 hw [] b40 T45.heap n0 (by omega) Fr45) hZ (hw _ (List.mem_of_getElem? (i := 83) rfl)) (hw _ (List.mem_of_getElem? (i := 44) rfl)) (by decide) (by decide)) q53a q53c (g := (mkF m 324 #[.val (.int sel), .val (.int c0), .val (.int c1), .val (.int fg), .val (.ref b1), .val (.ref sa), .val (.int x6), .val (.int x7), .val (.int x8), .val (.int x9), .val (.int ((((fg.toUInt32 >>> ((4 : Int32) &&& 31).toUInt32).toInt32) &&& (255 : Int32)) % (3 : Int32))), .val (.int (c0 &&& (255 : Int32))), .val (.int (c1 &&& (255 : Int32))), .val (.ref tx), .val rs, .val fl, .val (.ref b40)] [(.ref b40)])) rfl (by rw [hml]; rfl) (Steps.refl _) (argsL := []) (rest := []) (lenOf own_pd_x28x29Z rfl) rfl (by show 2 * 0 + _ ≤ _; exact Nat.le_of_eq rfl) (hb hby at_324) (fun _ _ => ⟨rfl, rfl, (by decide : 23 + 0 ≤ _), (by decide : 114 + 0 ≤ _)⟩)
                      dsimp only [Pt.U, Pt.locs, Pt.cells, Pt.slots] at X53 l53 y53 z53 st53 hQ53
                      subst l53 y53 z53
                      obtain ⟨rfl, N53q, eh53⟩ := hQ53
                      have N53 := Fr.app N45 N53q
                      refine OwnFin.adv (B := T53.setTop (mkF m 327 #[.val (.int sel), .val (.int c0), .val (.int c1), .val (.int fg), .val (.ref b1), .val (.ref sa), .val (.int x6), .val (.int x7), .val (.int x8), .val (.int x9), .val (.int ((((fg.toUInt32 >>> ((4 : Int32) &&& 31).toUInt32).toInt32) &&& (255 : Int32)) % (3 : Int32))), .val (.int (c0 &&& (255 : Int32))), .val (.int (c1 &&& (255 : Int32))), .val (.ref tx), .val rs, .val fl, .val (.ref b40)] [(.int (0 : Int32))])) (fun _ k => st53.trans k) ?_
                      refine OwnFin.adv (B := T53.setTop (mkF m 329 #[.val (.int sel), .val (.int c0), .val (.int c1), .val (.int fg), .val (.ref b1), .val (.ref sa), .val (.int x6), .val (.int x7), .val (.int x8), .val (.int x9), .val (.int ((((fg.toUInt32 >>> ((4 : Int32) &&& 31).toUInt32).toInt32) &&& (255 : Int32)) % (3 : Int32))), .val (.int (c0 &&& (255 : Int32))), .val (.int (c1 &&& (255 : Int32))), .val (.ref tx), .val rs, .val fl, .val (.ref b40)] [(.int x6), (.int (0 : Int32))])) (fun _ k => XS.iload X53.here hx rfl (hb hby at_327) rfl k) ?_
                      have hc329_105 : (0 : Int32) = x6 := hc245.symm
                      refine OwnFin.adv (B := T53.setTop (mkF m 334 #[.val (.int sel), .val (.int c0), .val (.int c1), .val (.int fg), .val (.ref b1), .val (.ref sa), .val (.int x6), .val (.int x7), .val (.int x8), .val (.int x9), .val (.int ((((fg.toUInt32 >>> ((4 : Int32) &&& 31).toUInt32).toInt32) &&& (255 : Int32)) % (3 : Int32))), .val (.int (c0 &&& (255 : Int32))), .val (.int (c1 &&& (255 : Int32))), .val (.ref tx), .val rs, .val fl, .val (.ref b40)] [])) (fun _ k => XS.icmpYes X53.here hx rfl (pc0 := 329) (pc' := 334) rfl (hb hby at_329) rfl (teq hc329_105).1 (by decide) (by decide) k) ?_
                      refine OwnFin.adv (B := T53.setTop (mkF m 336 #[.val (.int sel), .val (.int c0), .val (.int c1), .val (.int fg), .val (.ref b1), .val (.ref sa), .val (.int x6), .val (.int x7), .val (.int x8), .val (.int x9), .val (.int ((((fg.toUInt32 >>> ((4 : Int32) &&& 31).toUInt32).toInt32) &&& (255 : Int32)) % (3 : Int32))), .val (.int (c0 &&& (255 : Int32))), .val (.int (c1 &&& (255 : Int32))), .val (.ref tx), .val rs, .val fl, .val (.ref b40)] [(.int x6)])) (fun _ k => XS.iload X53.here hx rfl (hb hby at_334) rfl k) ?_
                      have hc336_107 : x6 = (0 : Int32) := hc245
                      refine OwnFin.adv (B := T53.setTop (mkF m 351 #[.val (.int sel), .val (.int c0), .val (.int c1), .val (.int fg), .val (.ref b1), .val (.ref sa), .val (.int x6), .val (.int x7), .val (.int x8), .val (.int x9), .val (.int ((((fg.toUInt32 >>> ((4 : Int32) &&& 31).toUInt32).toInt32) &&& (255 : Int32)) % (3 : Int32))), .val (.int (c0 &&& (255 : Int32))), .val (.int (c1 &&& (255 : Int32))), .val (.ref tx), .val rs, .val fl, .val (.ref b40)] [])) (fun _ k => XS.ifYes X53.here hx rfl (pc0 := 336) (pc' := 351) rfl (hb hby at_336) rfl ((if0 _ _).trans (teq hc336_107).1) (by decide) (by decide) k) ?_
                      refine OwnFin.adv (B := T53.setTop (mkF m 353 #[.val (.int sel), .val (.int c0), .val (.int c1), .val (.int fg), .val (.ref b1), .val (.ref sa), .val (.int x6), .val (.int x7), .val (.int x8), .val (.int x9), .val (.int ((((fg.toUInt32 >>> ((4 : Int32) &&& 31).toUInt32).toInt32) &&& (255 : Int32)) % (3 : Int32))), .val (.int (c0 &&& (255 : Int32))), .val (.int (c1 &&& (255 : Int32))), .val (.ref tx), .val rs, .val fl, .val (.ref b40)] [(.int x6)])) (fun _ k => XS.iload X53.here hx rfl (hb hby at_351) rfl k) ?_
                      have hc353_109 : x6 = (0 : Int32) := hc245
                      refine OwnFin.adv (B := T53.setTop (mkF m 366 #[.val (.int sel), .val (.int c0), .val (.int c1), .val (.int fg), .val (.ref b1), .val (.ref sa), .val (.int x6), .val (.int x7), .val (.int x8), .val (.int x9), .val (.int ((((fg.toUInt32 >>> ((4 : Int32) &&& 31).toUInt32).toInt32) &&& (255 : Int32)) % (3 : Int32))), .val (.int (c0 &&& (255 : Int32))), .val (.int (c1 &&& (255 : Int32))), .val (.ref tx), .val rs, .val fl, .val (.ref b40)] [])) (fun _ k => XS.ifYes X53.here hx rfl (pc0 := 353) (pc' := 366) rfl (hb hby at_353) rfl ((if0 _ _).trans (teq hc353_109).1) (by decide) (by decide) k) ?_
                      refine OwnFin.adv (B := T53.setTop (mkF m 367 #[.val (.int sel), .val (.int c0), .val (.int c1), .val (.int fg), .val (.ref b1), .val (.ref sa), .val (.int x6), .val (.int x7), .val (.int x8), .val (.int x9), .val (.int ((((fg.toUInt32 >>> ((4 : Int32) &&& 31).toUInt32).toInt32) &&& (255 : Int32)) % (3 : Int32))), .val (.int (c0 &&& (255 : Int32))), .val (.int (c1 &&& (255 : Int32))), .val (.ref tx), .val rs, .val fl, .val (.ref b40)] [(.int (1 : Int32))])) (fun _ k => XS.iconst X53.here hx rfl (hb hby at_366) k) ?_
                      obtain ⟨fs, hr, hrun, hended, hE⟩ := X53.leaveW hSJ (by rw [eh53]; omega) (v := some (.int (1 : Int32))) (fun h => by rw [Bd.returns] at h; cases h)
                      refine OwnFin.leaf hP' ⟨_, _, retN X53 hx (t := .boolean) Bd.returns (by simp) (hb hby at_367) hr, hrun, hended, _, _, rfl, ?_, own_monoW hE (by decide) (by decide)⟩
                      exact ⟨rfl, N53⟩
                    ·
                      refine OwnFin.adv (B := TJ.setTop (mkF m 278 #[.val (.int sel), .val (.int c0), .val (.int c1), .val (.int fg), .val (.ref b1), .val (.ref sa), .val (.int x6), .val (.int x7), .val (.int x8), .val (.int x9), .val (.int ((((fg.toUInt32 >>> ((4 : Int32) &&& 31).toUInt32).toInt32) &&& (255 : Int32)) % (3 : Int32))), .val (.int (c0 &&& (255 : Int32))), .val (.int (c1 &&& (255 : Int32))), .val (.ref tx), .val rs, .val fl, .unset] [])) (fun _ k => XS.ifNo XJ.here hx rfl (hb hby at_275) rfl ((if0 _ _).trans (feq hc275).1) k) ?_
                      obtain ⟨T55, h55, X55, e55, E55, A55, D55, -, st55⟩ := newO XJ hx hZ hown (hw _ (List.mem_of_getElem? (i := 42) rfl)) (hw _ (List.mem_of_getElem? (i := 43) rfl)) (hw _ (List.mem_of_getElem? (i := 44) rfl)) eJ (g := (mkF m 278 #[.val (.int sel), .val (.int c0), .val (.int c1), .val (.int fg), .val (.ref b1), .val (.ref sa), .val (.int x6), .val (.int x7), .val (.int x8), .val (.int x9), .val (.int ((((fg.toUInt32 >>> ((4 : Int32) &&& 31).toUInt32).toInt32) &&& (255 : Int32)) % (3 : Int32))), .val (.int (c0 &&& (255 : Int32))), .val (.int (c1 &&& (255 : Int32))), .val (.ref tx), .val rs, .val fl, .unset] [])) rfl (hb hby at_278) (by decide) (by decide)
                      obtain ⟨b55, g55⟩ : ∃ z, z = hJ.size := ⟨_, rfl⟩
                      rw [← g55] at A55 D55 st55
                      have sz56 : hJ.size ≤ h55.size := E55.1
                      have lt_b55 := own_lt A55.lt
                      have F55_instanceId : Fld Z h55 b55 "com/example/klotho/klotho/WorkflowOutcome" "instanceId" "Ljava/lang/String;" .null := D55 (Or.inr (hw _ (List.mem_of_getElem? (i := 70) rfl))) (ty := (.object "java/lang/String")) (by decide)
                      have F55_status : Fld Z h55 b55 "com/example/klotho/klotho/WorkflowOutcome" "status" "Lcom/example/klotho/klotho/InstanceStatus;" .null := D55 (Or.inr (hw _ (List.mem_of_getElem? (i := 72) rfl))) (ty := (.object "com/example/klotho/klotho/InstanceStatus")) (by decide)
                      have F55_result : Fld Z h55 b55 "com/example/klotho/klotho/WorkflowOutcome" "result" "Ljava/lang/Object;" .null := D55 (Or.inr (hw _ (List.mem_of_getElem? (i := 74) rfl))) (ty := (.object "java/lang/Object")) (by decide)
                      have F55_failure : Fld Z h55 b55 "com/example/klotho/klotho/WorkflowOutcome" "failure" "Lcom/example/klotho/klotho/RecordedFailure;" .null := D55 (Or.inr (hw _ (List.mem_of_getElem? (i := 76) rfl))) (ty := (.object "com/example/klotho/klotho/RecordedFailure")) (by decide)
                      have F55_refusal : Fld Z h55 b55 "com/example/klotho/klotho/WorkflowOutcome" "refusal" "Ljava/lang/String;" .null := D55 (Or.inr (hw _ (List.mem_of_getElem? (i := 78) rfl))) (ty := (.object "java/lang/String")) (by decide)
                      refine OwnFin.adv (B := T55.setTop (mkF m 281 #[.val (.int sel), .val (.int c0), .val (.int c1), .val (.int fg), .val (.ref b1), .val (.ref sa), .val (.int x6), .val (.int x7), .val (.int x8), .val (.int x9), .val (.int ((((fg.toUInt32 >>> ((4 : Int32) &&& 31).toUInt32).toInt32) &&& (255 : Int32)) % (3 : Int32))), .val (.int (c0 &&& (255 : Int32))), .val (.int (c1 &&& (255 : Int32))), .val (.ref tx), .val rs, .val fl, .unset] [(.ref b55)])) (fun _ k => st55 _ k) ?_
                      refine OwnFin.adv (B := T55.setTop (mkF m 282 #[.val (.int sel), .val (.int c0), .val (.int c1), .val (.int fg), .val (.ref b1), .val (.ref sa), .val (.int x6), .val (.int x7), .val (.int x8), .val (.int x9), .val (.int ((((fg.toUInt32 >>> ((4 : Int32) &&& 31).toUInt32).toInt32) &&& (255 : Int32)) % (3 : Int32))), .val (.int (c0 &&& (255 : Int32))), .val (.int (c1 &&& (255 : Int32))), .val (.ref tx), .val rs, .val fl, .unset] [(.ref b55), (.ref b55)])) (fun _ k => XS.dup X55.here hx rfl (hb hby at_281) rfl rfl k) ?_
                      refine OwnFin.adv (B := T55.setTop (mkF m 284 #[.val (.int sel), .val (.int c0), .val (.int c1), .val (.int fg), .val (.ref b1), .val (.ref sa), .val (.int x6), .val (.int x7), .val (.int x8), .val (.int x9), .val (.int ((((fg.toUInt32 >>> ((4 : Int32) &&& 31).toUInt32).toInt32) &&& (255 : Int32)) % (3 : Int32))), .val (.int (c0 &&& (255 : Int32))), .val (.int (c1 &&& (255 : Int32))), .val (.ref tx), .val rs, .val fl, .unset] [(.int (105 : Int32)), (.ref b55), (.ref b55)])) (fun _ k => XS.bipush X55.here hx rfl (hb hby at_282) k) ?_
                      have Old58 : Old Z n0 h55 := (OJ.ext E55)
                      obtain ⟨_, _, ⟨T57, L57, k57, n57⟩, -, X57, ⟨Lc57, hQ57, l57, y57, z57⟩, st57⟩ := Jvm.LawKit.callS X55 hx (y := (⟨"java/lang/String", "valueOf", "(C)Ljava/lang/String;"⟩ : MethodName)) hown (mvT hZ (hw _ (List.mem_of_getElem? (i := 45) rfl))) (mvT hZ (hw _ (List.mem_of_getElem? (i := 46) rfl))) (mvT hZ (hw _ (List.mem_of_getElem? (i := 22) rfl))) (mvT hZ (hw _ (List.mem_of_getElem? (i := 47) rfl))) (by decide) (backOf (W := 2) (own_strVal l Z a0 hw [] (105 : Int32) zc h55 n0 (by omega) Old58 SCS hzc (by decide)) hZ (hw _ (List.mem_of_getElem? (i := 47) rfl)) (hw _ (List.mem_of_getElem? (i := 22) rfl)) (by decide) (by decide)) (g := (mkF m 284 #[.val (.int sel), .val (.int c0), .val (.int c1), .val (.int fg), .val (.ref b1), .val (.ref sa), .val (.int x6), .val (.int x7), .val (.int x8), .val (.int x9), .val (.int ((((fg.toUInt32 >>> ((4 : Int32) &&& 31).toUInt32).toInt32) &&& (255 : Int32)) % (3 : Int32))), .val (.int (c0 &&& (255 : Int32))), .val (.int (c1 &&& (255 : Int32))), .val (.ref tx), .val rs, .val fl, .unset] [(.int (105 : Int32)), (.ref b55), (.ref b55)])) rfl (by rw [hml]; rfl) (argsL := [(.int (105 : Int32))]) (rest := [(.ref b55), (.ref b55)]) (lenOf own_pd_x28Cx29Ljavax2flangx2fStringx3b rfl) rfl (by show 2 * 0 + _ ≤ _; exact Nat.le_of_eq rfl) (hb hby at_284) (fun _ _ => ⟨rfl, e55, (by decide : 21 + 2 ≤ _), (by decide : 109 + 5 ≤ _)⟩)
                      dsimp only [Pt.U, Pt.locs, Pt.cells, Pt.slots] at X57 l57 y57 z57 st57 hQ57
                      subst l57 y57 z57
                      obtain ⟨r57, t57, kb57, rfl, N57q, K57, ger57, get57, Er57, Fc57, Fv57, V57⟩ := hQ57
                      have N57 := Fr.app NJ N57q
                      have sz59 : h55.size ≤ T57.heap.size := K57.1
                      have lt_t57 := own_lt V57.lt
                      have lt_r57 := own_lt Er57.lt
                      refine OwnFin.adv (B := T57.setTop (mkF m 287 #[.val (.int sel), .val (.int c0), .val (.int c1), .val (.int fg), .val (.ref b1), .val (.ref sa), .val (.int x6), .val (.int x7), .val (.int x8), .val (.int x9), .val (.int ((((fg.toUInt32 >>> ((4 : Int32) &&& 31).toUInt32).toInt32) &&& (255 : Int32)) % (3 : Int32))), .val (.int (c0 &&& (255 : Int32))), .val (.int (c1 &&& (255 : Int32))), .val (.ref tx), .val rs, .val fl, .unset] [(.ref r57), (.ref b55), (.ref b55)])) (fun _ k => st57 _ k) ?_
                      refine OwnFin.adv (B := T57.setTop (mkF m 289 #[.val (.int sel), .val (.int c0), .val (.int c1), .val (.int fg), .val (.ref b1), .val (.ref sa), .val (.int x6), .val (.int x7), .val (.int x8), .val (.int x9), .val (.int ((((fg.toUInt32 >>> ((4 : Int32) &&& 31).toUInt32).toInt32) &&& (255 : Int32)) % (3 : Int32))), .val (.int (c0 &&& (255 : Int32))), .val (.int (c1 &&& (255 : Int32))), .val (.ref tx), .val rs, .val fl, .unset] [(.ref sa), (.ref r57), (.ref b55), (.ref b55)])) (fun _ k => XS.aload X57.here hx rfl (hb hby at_287) rfl rfl k) ?_
                      refine OwnFin.adv (B := T57.setTop (mkF m 291 #[.val (.int sel), .val (.int c0), .val (.int c1), .val (.int fg), .val (.ref b1), .val (.ref sa), .val (.int x6), .val (.int x7), .val (.int x8), .val (.int x9), .val (.int ((((fg.toUInt32 >>> ((4 : Int32) &&& 31).toUInt32).toInt32) &&& (255 : Int32)) % (3 : Int32))), .val (.int (c0 &&& (255 : Int32))), .val (.int (c1 &&& (255 : Int32))), .val (.ref tx), .val rs, .val fl, .unset] [rs, (.ref sa), (.ref r57), (.ref b55), (.ref b55)])) (fun _ k => XS.aload X57.here hx rfl (hb hby at_289) rfl hr_rs k) ?_
                      refine OwnFin.adv (B := T57.setTop (mkF m 293 #[.val (.int sel), .val (.int c0), .val (.int c1), .val (.int fg), .val (.ref b1), .val (.ref sa), .val (.int x6), .val (.int x7), .val (.int x8), .val (.int x9), .val (.int ((((fg.toUInt32 >>> ((4 : Int32) &&& 31).toUInt32).toInt32) &&& (255 : Int32)) % (3 : Int32))), .val (.int (c0 &&& (255 : Int32))), .val (.int (c1 &&& (255 : Int32))), .val (.ref tx), .val rs, .val fl, .unset] [fl, rs, (.ref sa), (.ref r57), (.ref b55), (.ref b55)])) (fun _ k => XS.aload X57.here hx rfl (hb hby at_291) rfl hr_fl k) ?_
                      have Fv61_2 : Exa Z T57.heap b55 "com/example/klotho/klotho/WorkflowOutcome" := (A55.keep K57)
                      have Fv62_2 : Fld Z T57.heap b55 "com/example/klotho/klotho/WorkflowOutcome" "instanceId" "Ljava/lang/String;" .null := (F55_instanceId.keep K57 nin0)
                      have Fv63_2 : Fld Z T57.heap b55 "com/example/klotho/klotho/WorkflowOutcome" "status" "Lcom/example/klotho/klotho/InstanceStatus;" .null := (F55_status.keep K57 nin0)
                      have Fv64_2 : Fld Z T57.heap b55 "com/example/klotho/klotho/WorkflowOutcome" "result" "Ljava/lang/Object;" .null := (F55_result.keep K57 nin0)
                      have Fv65_2 : Fld Z T57.heap b55 "com/example/klotho/klotho/WorkflowOutcome" "failure" "Lcom/example/klotho/klotho/RecordedFailure;" .null := (F55_failure.keep K57 nin0)
                      have Fv66_2 : Fld Z T57.heap b55 "com/example/klotho/klotho/WorkflowOutcome" "refusal" "Ljava/lang/String;" .null := (F55_refusal.keep K57 nin0)
                      obtain ⟨_, _, ⟨T60, L60, k60, n60⟩, -, X60, ⟨Lc60, hQ60, l60, y60, z60⟩, st60⟩ := X57.specialBack hx (y := (⟨"com/example/klotho/klotho/WorkflowOutcome", "<init>", "(Ljava/lang/String;Lcom/example/klotho/klotho/InstanceStatus;Ljava/lang/Object;Lcom/example/klotho/klotho/RecordedFailure;)V"⟩ : MethodName)) rfl hown (mvT hZ (hw _ (List.mem_of_getElem? (i := 101) rfl))) (mvT hZ (hw _ (List.mem_of_getElem? (i := 102) rfl))) (mvT hZ (hw _ (List.mem_of_getElem? (i := 103) rfl))) (by decide) (backOf (W := 1) (own_wo4 l Z a0 hw [] b55 r57 sa rs fl hr_rs hr_fl _ _ _ _ _ T57.heap n0 (by omega) Fv61_2 Fv62_2 Fv63_2 Fv64_2 Fv65_2 Fv66_2 (by omega)) hZ (hw _ (List.mem_of_getElem? (i := 103) rfl)) (hw _ (List.mem_of_getElem? (i := 44) rfl)) (by decide) (by decide)) (g := (mkF m 293 #[.val (.int sel), .val (.int c0), .val (.int c1), .val (.int fg), .val (.ref b1), .val (.ref sa), .val (.int x6), .val (.int x7), .val (.int x8), .val (.int x9), .val (.int ((((fg.toUInt32 >>> ((4 : Int32) &&& 31).toUInt32).toInt32) &&& (255 : Int32)) % (3 : Int32))), .val (.int (c0 &&& (255 : Int32))), .val (.int (c1 &&& (255 : Int32))), .val (.ref tx), .val rs, .val fl, .unset] [fl, rs, (.ref sa), (.ref r57), (.ref b55), (.ref b55)])) rfl (by rw [hml]; rfl) (Steps.refl _) (a := b55) (argsL := [(.ref r57), (.ref sa), rs, fl]) (rest := [(.ref b55)]) (lenOf own_pd_x28Ljavax2flangx2fStringx3bLcomx2fexamplex2fklothox2fklothox2fInstanceStatusx3bLjavax2flangx2fObjectx3bLcomx2fexamplex2fklothox2fklothox2fRecordedFailurex3bx29V rfl) rfl (by show 2 * 0 + _ ≤ _; exact Nat.le_of_eq rfl) (hb hby at_293) (fun _ _ => ⟨rfl, rfl, (by decide : 23 + 0 ≤ _), (by decide : 114 + 0 ≤ _)⟩)
                      dsimp only [Pt.U, Pt.locs, Pt.cells, Pt.slots] at X60 l60 y60 z60 st60 hQ60
                      subst l60 y60 z60
                      obtain ⟨rfl, N60q, K60, Fr60⟩ := hQ60
                      have N60 := Fr.app N57 N60q
                      have sz67 : T57.heap.size ≤ T60.heap.size := K60.1
                      refine OwnFin.adv (B := T60.setTop (mkF m 296 #[.val (.int sel), .val (.int c0), .val (.int c1), .val (.int fg), .val (.ref b1), .val (.ref sa), .val (.int x6), .val (.int x7), .val (.int x8), .val (.int x9), .val (.int ((((fg.toUInt32 >>> ((4 : Int32) &&& 31).toUInt32).toInt32) &&& (255 : Int32)) % (3 : Int32))), .val (.int (c0 &&& (255 : Int32))), .val (.int (c1 &&& (255 : Int32))), .val (.ref tx), .val rs, .val fl, .unset] [(.ref b55)])) (fun _ k => st60.trans k) ?_
                      refine OwnFin.adv (B := T60.setTop (mkF m 298 #[.val (.int sel), .val (.int c0), .val (.int c1), .val (.int fg), .val (.ref b1), .val (.ref sa), .val (.int x6), .val (.int x7), .val (.int x8), .val (.int x9), .val (.int ((((fg.toUInt32 >>> ((4 : Int32) &&& 31).toUInt32).toInt32) &&& (255 : Int32)) % (3 : Int32))), .val (.int (c0 &&& (255 : Int32))), .val (.int (c1 &&& (255 : Int32))), .val (.ref tx), .val rs, .val fl, .val (.ref b55)] [])) (fun _ k => XS.astore X60.here hx rfl (hb hby at_296) rfl rfl (l' := #[.val (.int sel), .val (.int c0), .val (.int c1), .val (.int fg), .val (.ref b1), .val (.ref sa), .val (.int x6), .val (.int x7), .val (.int x8), .val (.int x9), .val (.int ((((fg.toUInt32 >>> ((4 : Int32) &&& 31).toUInt32).toInt32) &&& (255 : Int32)) % (3 : Int32))), .val (.int (c0 &&& (255 : Int32))), .val (.int (c1 &&& (255 : Int32))), .val (.ref tx), .val rs, .val fl, .val (.ref b55)]) rfl k) ?_
                      refine OwnFin.adv (B := T60.setTop (mkF m 322 #[.val (.int sel), .val (.int c0), .val (.int c1), .val (.int fg), .val (.ref b1), .val (.ref sa), .val (.int x6), .val (.int x7), .val (.int x8), .val (.int x9), .val (.int ((((fg.toUInt32 >>> ((4 : Int32) &&& 31).toUInt32).toInt32) &&& (255 : Int32)) % (3 : Int32))), .val (.int (c0 &&& (255 : Int32))), .val (.int (c1 &&& (255 : Int32))), .val (.ref tx), .val rs, .val fl, .val (.ref b55)] [])) (fun _ k => XS.goto X60.here hx rfl (pc0 := 298) (pc' := 322) rfl (hb hby at_298) (by decide) (by decide) k) ?_
                      refine OwnFin.adv (B := T60.setTop (mkF m 324 #[.val (.int sel), .val (.int c0), .val (.int c1), .val (.int fg), .val (.ref b1), .val (.ref sa), .val (.int x6), .val (.int x7), .val (.int x8), .val (.int x9), .val (.int ((((fg.toUInt32 >>> ((4 : Int32) &&& 31).toUInt32).toInt32) &&& (255 : Int32)) % (3 : Int32))), .val (.int (c0 &&& (255 : Int32))), .val (.int (c1 &&& (255 : Int32))), .val (.ref tx), .val rs, .val fl, .val (.ref b55)] [(.ref b55)])) (fun _ k => XS.aload X60.here hx rfl (hb hby at_322) rfl rfl k) ?_
                      have Fv69_3 : Exa Z T60.heap b55 "com/example/klotho/klotho/WorkflowOutcome" := (Fv61_2.keep K60)
                      obtain ⟨cq68, kq68, q68a, q68b, q68c⟩ := isOf hZ rfl Fv69_3
                      obtain ⟨_, _, ⟨T68, L68, k68, n68⟩, -, X68, ⟨Lc68, hQ68, l68, y68, z68⟩, st68⟩ := X60.virtualBack hx (y := (⟨"com/example/klotho/klotho/WorkflowOutcome", "isRefused", "()Z"⟩ : MethodName)) (z := (⟨"com/example/klotho/klotho/WorkflowOutcome", "isRefused", "()Z"⟩ : MethodName)) hown (mvT hZ (hw _ (List.mem_of_getElem? (i := 79) rfl))) (mvT hZ (hw _ (List.mem_of_getElem? (i := 80) rfl))) (notFace_of_selects (args := #[]) (mvT hZ (hw _ (List.mem_of_getElem? (i := 82) rfl)))) (mvT hZ (hw _ (List.mem_of_getElem? (i := 82) rfl))) (mvT hZ (hw _ (List.mem_of_getElem? (i := 81) rfl))) (by decide) (backOf (W := 0) (own_refN l Z a0 hw [] b55 T60.heap n0 (by omega) Fr60) hZ (hw _ (List.mem_of_getElem? (i := 83) rfl)) (hw _ (List.mem_of_getElem? (i := 44) rfl)) (by decide) (by decide)) q68a q68c (g := (mkF m 324 #[.val (.int sel), .val (.int c0), .val (.int c1), .val (.int fg), .val (.ref b1), .val (.ref sa), .val (.int x6), .val (.int x7), .val (.int x8), .val (.int x9), .val (.int ((((fg.toUInt32 >>> ((4 : Int32) &&& 31).toUInt32).toInt32) &&& (255 : Int32)) % (3 : Int32))), .val (.int (c0 &&& (255 : Int32))), .val (.int (c1 &&& (255 : Int32))), .val (.ref tx), .val rs, .val fl, .val (.ref b55)] [(.ref b55)])) rfl (by rw [hml]; rfl) (Steps.refl _) (argsL := []) (rest := []) (lenOf own_pd_x28x29Z rfl) rfl (by show 2 * 0 + _ ≤ _; exact Nat.le_of_eq rfl) (hb hby at_324) (fun _ _ => ⟨rfl, rfl, (by decide : 23 + 0 ≤ _), (by decide : 114 + 0 ≤ _)⟩)
                      dsimp only [Pt.U, Pt.locs, Pt.cells, Pt.slots] at X68 l68 y68 z68 st68 hQ68
                      subst l68 y68 z68
                      obtain ⟨rfl, N68q, eh68⟩ := hQ68
                      have N68 := Fr.app N60 N68q
                      refine OwnFin.adv (B := T68.setTop (mkF m 327 #[.val (.int sel), .val (.int c0), .val (.int c1), .val (.int fg), .val (.ref b1), .val (.ref sa), .val (.int x6), .val (.int x7), .val (.int x8), .val (.int x9), .val (.int ((((fg.toUInt32 >>> ((4 : Int32) &&& 31).toUInt32).toInt32) &&& (255 : Int32)) % (3 : Int32))), .val (.int (c0 &&& (255 : Int32))), .val (.int (c1 &&& (255 : Int32))), .val (.ref tx), .val rs, .val fl, .val (.ref b55)] [(.int (0 : Int32))])) (fun _ k => st68.trans k) ?_
                      refine OwnFin.adv (B := T68.setTop (mkF m 329 #[.val (.int sel), .val (.int c0), .val (.int c1), .val (.int fg), .val (.ref b1), .val (.ref sa), .val (.int x6), .val (.int x7), .val (.int x8), .val (.int x9), .val (.int ((((fg.toUInt32 >>> ((4 : Int32) &&& 31).toUInt32).toInt32) &&& (255 : Int32)) % (3 : Int32))), .val (.int (c0 &&& (255 : Int32))), .val (.int (c1 &&& (255 : Int32))), .val (.ref tx), .val rs, .val fl, .val (.ref b55)] [(.int x6), (.int (0 : Int32))])) (fun _ k => XS.iload X68.here hx rfl (hb hby at_327) rfl k) ?_
                      have hc329_105 : (0 : Int32) = x6 := hc245.symm
                      refine OwnFin.adv (B := T68.setTop (mkF m 334 #[.val (.int sel), .val (.int c0), .val (.int c1), .val (.int fg), .val (.ref b1), .val (.ref sa), .val (.int x6), .val (.int x7), .val (.int x8), .val (.int x9), .val (.int ((((fg.toUInt32 >>> ((4 : Int32) &&& 31).toUInt32).toInt32) &&& (255 : Int32)) % (3 : Int32))), .val (.int (c0 &&& (255 : Int32))), .val (.int (c1 &&& (255 : Int32))), .val (.ref tx), .val rs, .val fl, .val (.ref b55)] [])) (fun _ k => XS.icmpYes X68.here hx rfl (pc0 := 329) (pc' := 334) rfl (hb hby at_329) rfl (teq hc329_105).1 (by decide) (by decide) k) ?_
                      refine OwnFin.adv (B := T68.setTop (mkF m 336 #[.val (.int sel), .val (.int c0), .val (.int c1), .val (.int fg), .val (.ref b1), .val (.ref sa), .val (.int x6), .val (.int x7), .val (.int x8), .val (.int x9), .val (.int ((((fg.toUInt32 >>> ((4 : Int32) &&& 31).toUInt32).toInt32) &&& (255 : Int32)) % (3 : Int32))), .val (.int (c0 &&& (255 : Int32))), .val (.int (c1 &&& (255 : Int32))), .val (.ref tx), .val rs, .val fl, .val (.ref b55)] [(.int x6)])) (fun _ k => XS.iload X68.here hx rfl (hb hby at_334) rfl k) ?_
                      have hc336_107 : x6 = (0 : Int32) := hc245
                      refine OwnFin.adv (B := T68.setTop (mkF m 351 #[.val (.int sel), .val (.int c0), .val (.int c1), .val (.int fg), .val (.ref b1), .val (.ref sa), .val (.int x6), .val (.int x7), .val (.int x8), .val (.int x9), .val (.int ((((fg.toUInt32 >>> ((4 : Int32) &&& 31).toUInt32).toInt32) &&& (255 : Int32)) % (3 : Int32))), .val (.int (c0 &&& (255 : Int32))), .val (.int (c1 &&& (255 : Int32))), .val (.ref tx), .val rs, .val fl, .val (.ref b55)] [])) (fun _ k => XS.ifYes X68.here hx rfl (pc0 := 336) (pc' := 351) rfl (hb hby at_336) rfl ((if0 _ _).trans (teq hc336_107).1) (by decide) (by decide) k) ?_
                      refine OwnFin.adv (B := T68.setTop (mkF m 353 #[.val (.int sel), .val (.int c0), .val (.int c1), .val (.int fg), .val (.ref b1), .val (.ref sa), .val (.int x6), .val (.int x7), .val (.int x8), .val (.int x9), .val (.int ((((fg.toUInt32 >>> ((4 : Int32) &&& 31).toUInt32).toInt32) &&& (255 : Int32)) % (3 : Int32))), .val (.int (c0 &&& (255 : Int32))), .val (.int (c1 &&& (255 : Int32))), .val (.ref tx), .val rs, .val fl, .val (.ref b55)] [(.int x6)])) (fun _ k => XS.iload X68.here hx rfl (hb hby at_351) rfl k) ?_
                      have hc353_109 : x6 = (0 : Int32) := hc245
                      refine OwnFin.adv (B := T68.setTop (mkF m 366 #[.val (.int sel), .val (.int c0), .val (.int c1), .val (.int fg), .val (.ref b1), .val (.ref sa), .val (.int x6), .val (.int x7), .val (.int x8), .val (.int x9), .val (.int ((((fg.toUInt32 >>> ((4 : Int32) &&& 31).toUInt32).toInt32) &&& (255 : Int32)) % (3 : Int32))), .val (.int (c0 &&& (255 : Int32))), .val (.int (c1 &&& (255 : Int32))), .val (.ref tx), .val rs, .val fl, .val (.ref b55)] [])) (fun _ k => XS.ifYes X68.here hx rfl (pc0 := 353) (pc' := 366) rfl (hb hby at_353) rfl ((if0 _ _).trans (teq hc353_109).1) (by decide) (by decide) k) ?_
                      refine OwnFin.adv (B := T68.setTop (mkF m 367 #[.val (.int sel), .val (.int c0), .val (.int c1), .val (.int fg), .val (.ref b1), .val (.ref sa), .val (.int x6), .val (.int x7), .val (.int x8), .val (.int x9), .val (.int ((((fg.toUInt32 >>> ((4 : Int32) &&& 31).toUInt32).toInt32) &&& (255 : Int32)) % (3 : Int32))), .val (.int (c0 &&& (255 : Int32))), .val (.int (c1 &&& (255 : Int32))), .val (.ref tx), .val rs, .val fl, .val (.ref b55)] [(.int (1 : Int32))])) (fun _ k => XS.iconst X68.here hx rfl (hb hby at_366) k) ?_
                      obtain ⟨fs, hr, hrun, hended, hE⟩ := X68.leaveW hSJ (by rw [eh68]; omega) (v := some (.int (1 : Int32))) (fun h => by rw [Bd.returns] at h; cases h)
                      refine OwnFin.leaf hP' ⟨_, _, retN X68 hx (t := .boolean) Bd.returns (by simp) (hb hby at_367) hr, hrun, hended, _, _, rfl, ?_, own_monoW hE (by decide) (by decide)⟩
                      exact ⟨rfl, N68⟩
                  ·
                    refine OwnFin.adv (B := TJ.setTop (mkF m 248 #[.val (.int sel), .val (.int c0), .val (.int c1), .val (.int fg), .val (.ref b1), .val (.ref sa), .val (.int x6), .val (.int x7), .val (.int x8), .val (.int x9), .val (.int ((((fg.toUInt32 >>> ((4 : Int32) &&& 31).toUInt32).toInt32) &&& (255 : Int32)) % (3 : Int32))), .val (.int (c0 &&& (255 : Int32))), .val (.int (c1 &&& (255 : Int32))), .val (.ref tx), .val rs, .val fl, .unset] [])) (fun _ k => XS.ifNo XJ.here hx rfl (hb hby at_245) rfl ((if0 _ _).trans (feq hc245).1) k) ?_
                    obtain ⟨T70, h70, X70, e70, E70, A70, D70, -, st70⟩ := newO XJ hx hZ hown (hw _ (List.mem_of_getElem? (i := 42) rfl)) (hw _ (List.mem_of_getElem? (i := 43) rfl)) (hw _ (List.mem_of_getElem? (i := 44) rfl)) eJ (g := (mkF m 248 #[.val (.int sel), .val (.int c0), .val (.int c1), .val (.int fg), .val (.ref b1), .val (.ref sa), .val (.int x6), .val (.int x7), .val (.int x8), .val (.int x9), .val (.int ((((fg.toUInt32 >>> ((4 : Int32) &&& 31).toUInt32).toInt32) &&& (255 : Int32)) % (3 : Int32))), .val (.int (c0 &&& (255 : Int32))), .val (.int (c1 &&& (255 : Int32))), .val (.ref tx), .val rs, .val fl, .unset] [])) rfl (hb hby at_248) (by decide) (by decide)
                    obtain ⟨b70, g70⟩ : ∃ z, z = hJ.size := ⟨_, rfl⟩
                    rw [← g70] at A70 D70 st70
                    have sz71 : hJ.size ≤ h70.size := E70.1
                    have lt_b70 := own_lt A70.lt
                    have F70_instanceId : Fld Z h70 b70 "com/example/klotho/klotho/WorkflowOutcome" "instanceId" "Ljava/lang/String;" .null := D70 (Or.inr (hw _ (List.mem_of_getElem? (i := 70) rfl))) (ty := (.object "java/lang/String")) (by decide)
                    have F70_status : Fld Z h70 b70 "com/example/klotho/klotho/WorkflowOutcome" "status" "Lcom/example/klotho/klotho/InstanceStatus;" .null := D70 (Or.inr (hw _ (List.mem_of_getElem? (i := 72) rfl))) (ty := (.object "com/example/klotho/klotho/InstanceStatus")) (by decide)
                    have F70_result : Fld Z h70 b70 "com/example/klotho/klotho/WorkflowOutcome" "result" "Ljava/lang/Object;" .null := D70 (Or.inr (hw _ (List.mem_of_getElem? (i := 74) rfl))) (ty := (.object "java/lang/Object")) (by decide)
                    have F70_failure : Fld Z h70 b70 "com/example/klotho/klotho/WorkflowOutcome" "failure" "Lcom/example/klotho/klotho/RecordedFailure;" .null := D70 (Or.inr (hw _ (List.mem_of_getElem? (i := 76) rfl))) (ty := (.object "com/example/klotho/klotho/RecordedFailure")) (by decide)
                    have F70_refusal : Fld Z h70 b70 "com/example/klotho/klotho/WorkflowOutcome" "refusal" "Ljava/lang/String;" .null := D70 (Or.inr (hw _ (List.mem_of_getElem? (i := 78) rfl))) (ty := (.object "java/lang/String")) (by decide)
                    refine OwnFin.adv (B := T70.setTop (mkF m 251 #[.val (.int sel), .val (.int c0), .val (.int c1), .val (.int fg), .val (.ref b1), .val (.ref sa), .val (.int x6), .val (.int x7), .val (.int x8), .val (.int x9), .val (.int ((((fg.toUInt32 >>> ((4 : Int32) &&& 31).toUInt32).toInt32) &&& (255 : Int32)) % (3 : Int32))), .val (.int (c0 &&& (255 : Int32))), .val (.int (c1 &&& (255 : Int32))), .val (.ref tx), .val rs, .val fl, .unset] [(.ref b70)])) (fun _ k => st70 _ k) ?_
                    refine OwnFin.adv (B := T70.setTop (mkF m 252 #[.val (.int sel), .val (.int c0), .val (.int c1), .val (.int fg), .val (.ref b1), .val (.ref sa), .val (.int x6), .val (.int x7), .val (.int x8), .val (.int x9), .val (.int ((((fg.toUInt32 >>> ((4 : Int32) &&& 31).toUInt32).toInt32) &&& (255 : Int32)) % (3 : Int32))), .val (.int (c0 &&& (255 : Int32))), .val (.int (c1 &&& (255 : Int32))), .val (.ref tx), .val rs, .val fl, .unset] [(.ref b70), (.ref b70)])) (fun _ k => XS.dup X70.here hx rfl (hb hby at_251) rfl rfl k) ?_
                    refine OwnFin.adv (B := T70.setTop (mkF m 254 #[.val (.int sel), .val (.int c0), .val (.int c1), .val (.int fg), .val (.ref b1), .val (.ref sa), .val (.int x6), .val (.int x7), .val (.int x8), .val (.int x9), .val (.int ((((fg.toUInt32 >>> ((4 : Int32) &&& 31).toUInt32).toInt32) &&& (255 : Int32)) % (3 : Int32))), .val (.int (c0 &&& (255 : Int32))), .val (.int (c1 &&& (255 : Int32))), .val (.ref tx), .val rs, .val fl, .unset] [(.int (105 : Int32)), (.ref b70), (.ref b70)])) (fun _ k => XS.bipush X70.here hx rfl (hb hby at_252) k) ?_
                    have Old73 : Old Z n0 h70 := (OJ.ext E70)
                    obtain ⟨_, _, ⟨T72, L72, k72, n72⟩, -, X72, ⟨Lc72, hQ72, l72, y72, z72⟩, st72⟩ := Jvm.LawKit.callS X70 hx (y := (⟨"java/lang/String", "valueOf", "(C)Ljava/lang/String;"⟩ : MethodName)) hown (mvT hZ (hw _ (List.mem_of_getElem? (i := 45) rfl))) (mvT hZ (hw _ (List.mem_of_getElem? (i := 46) rfl))) (mvT hZ (hw _ (List.mem_of_getElem? (i := 22) rfl))) (mvT hZ (hw _ (List.mem_of_getElem? (i := 47) rfl))) (by decide) (backOf (W := 2) (own_strVal l Z a0 hw [] (105 : Int32) zc h70 n0 (by omega) Old73 SCS hzc (by decide)) hZ (hw _ (List.mem_of_getElem? (i := 47) rfl)) (hw _ (List.mem_of_getElem? (i := 22) rfl)) (by decide) (by decide)) (g := (mkF m 254 #[.val (.int sel), .val (.int c0), .val (.int c1), .val (.int fg), .val (.ref b1), .val (.ref sa), .val (.int x6), .val (.int x7), .val (.int x8), .val (.int x9), .val (.int ((((fg.toUInt32 >>> ((4 : Int32) &&& 31).toUInt32).toInt32) &&& (255 : Int32)) % (3 : Int32))), .val (.int (c0 &&& (255 : Int32))), .val (.int (c1 &&& (255 : Int32))), .val (.ref tx), .val rs, .val fl, .unset] [(.int (105 : Int32)), (.ref b70), (.ref b70)])) rfl (by rw [hml]; rfl) (argsL := [(.int (105 : Int32))]) (rest := [(.ref b70), (.ref b70)]) (lenOf own_pd_x28Cx29Ljavax2flangx2fStringx3b rfl) rfl (by show 2 * 0 + _ ≤ _; exact Nat.le_of_eq rfl) (hb hby at_254) (fun _ _ => ⟨rfl, e70, (by decide : 21 + 2 ≤ _), (by decide : 109 + 5 ≤ _)⟩)
                    dsimp only [Pt.U, Pt.locs, Pt.cells, Pt.slots] at X72 l72 y72 z72 st72 hQ72
                    subst l72 y72 z72
                    obtain ⟨r72, t72, kb72, rfl, N72q, K72, ger72, get72, Er72, Fc72, Fv72, V72⟩ := hQ72
                    have N72 := Fr.app NJ N72q
                    have sz74 : h70.size ≤ T72.heap.size := K72.1
                    have lt_t72 := own_lt V72.lt
                    have lt_r72 := own_lt Er72.lt
                    refine OwnFin.adv (B := T72.setTop (mkF m 257 #[.val (.int sel), .val (.int c0), .val (.int c1), .val (.int fg), .val (.ref b1), .val (.ref sa), .val (.int x6), .val (.int x7), .val (.int x8), .val (.int x9), .val (.int ((((fg.toUInt32 >>> ((4 : Int32) &&& 31).toUInt32).toInt32) &&& (255 : Int32)) % (3 : Int32))), .val (.int (c0 &&& (255 : Int32))), .val (.int (c1 &&& (255 : Int32))), .val (.ref tx), .val rs, .val fl, .unset] [(.ref r72), (.ref b70), (.ref b70)])) (fun _ k => st72 _ k) ?_
                    refine OwnFin.adv (B := T72.setTop (mkF m 259 #[.val (.int sel), .val (.int c0), .val (.int c1), .val (.int fg), .val (.ref b1), .val (.ref sa), .val (.int x6), .val (.int x7), .val (.int x8), .val (.int x9), .val (.int ((((fg.toUInt32 >>> ((4 : Int32) &&& 31).toUInt32).toInt32) &&& (255 : Int32)) % (3 : Int32))), .val (.int (c0 &&& (255 : Int32))), .val (.int (c1 &&& (255 : Int32))), .val (.ref tx), .val rs, .val fl, .unset] [(.ref sa), (.ref r72), (.ref b70), (.ref b70)])) (fun _ k => XS.aload X72.here hx rfl (hb hby at_257) rfl rfl k) ?_
                    refine OwnFin.adv (B := T72.setTop (mkF m 261 #[.val (.int sel), .val (.int c0), .val (.int c1), .val (.int fg), .val (.ref b1), .val (.ref sa), .val (.int x6), .val (.int x7), .val (.int x8), .val (.int x9), .val (.int ((((fg.toUInt32 >>> ((4 : Int32) &&& 31).toUInt32).toInt32) &&& (255 : Int32)) % (3 : Int32))), .val (.int (c0 &&& (255 : Int32))), .val (.int (c1 &&& (255 : Int32))), .val (.ref tx), .val rs, .val fl, .unset] [rs, (.ref sa), (.ref r72), (.ref b70), (.ref b70)])) (fun _ k => XS.aload X72.here hx rfl (hb hby at_259) rfl hr_rs k) ?_
                    refine OwnFin.adv (B := T72.setTop (mkF m 263 #[.val (.int sel), .val (.int c0), .val (.int c1), .val (.int fg), .val (.ref b1), .val (.ref sa), .val (.int x6), .val (.int x7), .val (.int x8), .val (.int x9), .val (.int ((((fg.toUInt32 >>> ((4 : Int32) &&& 31).toUInt32).toInt32) &&& (255 : Int32)) % (3 : Int32))), .val (.int (c0 &&& (255 : Int32))), .val (.int (c1 &&& (255 : Int32))), .val (.ref tx), .val rs, .val fl, .unset] [fl, rs, (.ref sa), (.ref r72), (.ref b70), (.ref b70)])) (fun _ k => XS.aload X72.here hx rfl (hb hby at_261) rfl hr_fl k) ?_
                    refine OwnFin.adv (B := T72.setTop (mkF m 265 #[.val (.int sel), .val (.int c0), .val (.int c1), .val (.int fg), .val (.ref b1), .val (.ref sa), .val (.int x6), .val (.int x7), .val (.int x8), .val (.int x9), .val (.int ((((fg.toUInt32 >>> ((4 : Int32) &&& 31).toUInt32).toInt32) &&& (255 : Int32)) % (3 : Int32))), .val (.int (c0 &&& (255 : Int32))), .val (.int (c1 &&& (255 : Int32))), .val (.ref tx), .val rs, .val fl, .unset] [(.ref tx), fl, rs, (.ref sa), (.ref r72), (.ref b70), (.ref b70)])) (fun _ k => XS.aload X72.here hx rfl (hb hby at_263) rfl rfl k) ?_
                    have Fv76_2 : Exa Z T72.heap b70 "com/example/klotho/klotho/WorkflowOutcome" := (A70.keep K72)
                    have Fv77_2 : Fld Z T72.heap b70 "com/example/klotho/klotho/WorkflowOutcome" "instanceId" "Ljava/lang/String;" .null := (F70_instanceId.keep K72 nin0)
                    have Fv78_2 : Fld Z T72.heap b70 "com/example/klotho/klotho/WorkflowOutcome" "status" "Lcom/example/klotho/klotho/InstanceStatus;" .null := (F70_status.keep K72 nin0)
                    have Fv79_2 : Fld Z T72.heap b70 "com/example/klotho/klotho/WorkflowOutcome" "result" "Ljava/lang/Object;" .null := (F70_result.keep K72 nin0)
                    have Fv80_2 : Fld Z T72.heap b70 "com/example/klotho/klotho/WorkflowOutcome" "failure" "Lcom/example/klotho/klotho/RecordedFailure;" .null := (F70_failure.keep K72 nin0)
                    have Fv81_2 : Fld Z T72.heap b70 "com/example/klotho/klotho/WorkflowOutcome" "refusal" "Ljava/lang/String;" .null := (F70_refusal.keep K72 nin0)
                    obtain ⟨_, _, ⟨T75, L75, k75, n75⟩, -, X75, ⟨Lc75, hQ75, l75, y75, z75⟩, st75⟩ := X72.specialBack hx (y := (⟨"com/example/klotho/klotho/WorkflowOutcome", "<init>", "(Ljava/lang/String;Lcom/example/klotho/klotho/InstanceStatus;Ljava/lang/Object;Lcom/example/klotho/klotho/RecordedFailure;Ljava/lang/String;)V"⟩ : MethodName)) rfl hown (mvT hZ (hw _ (List.mem_of_getElem? (i := 60) rfl))) (mvT hZ (hw _ (List.mem_of_getElem? (i := 61) rfl))) (mvT hZ (hw _ (List.mem_of_getElem? (i := 62) rfl))) (by decide) (backOf (W := 1) (own_wo5 l Z a0 hw [] b70 r72 sa rs fl (.ref tx) hr_rs hr_fl rfl _ _ _ _ _ T72.heap n0 (by omega) Fv76_2 Fv77_2 Fv78_2 Fv79_2 Fv80_2 Fv81_2 (by omega)) hZ (hw _ (List.mem_of_getElem? (i := 62) rfl)) (hw _ (List.mem_of_getElem? (i := 44) rfl)) (by decide) (by decide)) (g := (mkF m 265 #[.val (.int sel), .val (.int c0), .val (.int c1), .val (.int fg), .val (.ref b1), .val (.ref sa), .val (.int x6), .val (.int x7), .val (.int x8), .val (.int x9), .val (.int ((((fg.toUInt32 >>> ((4 : Int32) &&& 31).toUInt32).toInt32) &&& (255 : Int32)) % (3 : Int32))), .val (.int (c0 &&& (255 : Int32))), .val (.int (c1 &&& (255 : Int32))), .val (.ref tx), .val rs, .val fl, .unset] [(.ref tx), fl, rs, (.ref sa), (.ref r72), (.ref b70), (.ref b70)])) rfl (by rw [hml]; rfl) (Steps.refl _) (a := b70) (argsL := [(.ref r72), (.ref sa), rs, fl, (.ref tx)]) (rest := [(.ref b70)]) (lenOf own_pd_x28Ljavax2flangx2fStringx3bLcomx2fexamplex2fklothox2fklothox2fInstanceStatusx3bLjavax2flangx2fObjectx3bLcomx2fexamplex2fklothox2fklothox2fRecordedFailurex3bLjavax2flangx2fStringx3bx29V rfl) rfl (by show 2 * 0 + _ ≤ _; exact Nat.le_of_eq rfl) (hb hby at_265) (fun _ _ => ⟨rfl, rfl, (by decide : 23 + 0 ≤ _), (by decide : 114 + 0 ≤ _)⟩)
                    dsimp only [Pt.U, Pt.locs, Pt.cells, Pt.slots] at X75 l75 y75 z75 st75 hQ75
                    subst l75 y75 z75
                    obtain ⟨rfl, N75q, K75, Fr75⟩ := hQ75
                    have N75 := Fr.app N72 N75q
                    have sz82 : T72.heap.size ≤ T75.heap.size := K75.1
                    refine OwnFin.adv (B := T75.setTop (mkF m 268 #[.val (.int sel), .val (.int c0), .val (.int c1), .val (.int fg), .val (.ref b1), .val (.ref sa), .val (.int x6), .val (.int x7), .val (.int x8), .val (.int x9), .val (.int ((((fg.toUInt32 >>> ((4 : Int32) &&& 31).toUInt32).toInt32) &&& (255 : Int32)) % (3 : Int32))), .val (.int (c0 &&& (255 : Int32))), .val (.int (c1 &&& (255 : Int32))), .val (.ref tx), .val rs, .val fl, .unset] [(.ref b70)])) (fun _ k => st75.trans k) ?_
                    refine OwnFin.adv (B := T75.setTop (mkF m 270 #[.val (.int sel), .val (.int c0), .val (.int c1), .val (.int fg), .val (.ref b1), .val (.ref sa), .val (.int x6), .val (.int x7), .val (.int x8), .val (.int x9), .val (.int ((((fg.toUInt32 >>> ((4 : Int32) &&& 31).toUInt32).toInt32) &&& (255 : Int32)) % (3 : Int32))), .val (.int (c0 &&& (255 : Int32))), .val (.int (c1 &&& (255 : Int32))), .val (.ref tx), .val rs, .val fl, .val (.ref b70)] [])) (fun _ k => XS.astore X75.here hx rfl (hb hby at_268) rfl rfl (l' := #[.val (.int sel), .val (.int c0), .val (.int c1), .val (.int fg), .val (.ref b1), .val (.ref sa), .val (.int x6), .val (.int x7), .val (.int x8), .val (.int x9), .val (.int ((((fg.toUInt32 >>> ((4 : Int32) &&& 31).toUInt32).toInt32) &&& (255 : Int32)) % (3 : Int32))), .val (.int (c0 &&& (255 : Int32))), .val (.int (c1 &&& (255 : Int32))), .val (.ref tx), .val rs, .val fl, .val (.ref b70)]) rfl k) ?_
                    refine OwnFin.adv (B := T75.setTop (mkF m 322 #[.val (.int sel), .val (.int c0), .val (.int c1), .val (.int fg), .val (.ref b1), .val (.ref sa), .val (.int x6), .val (.int x7), .val (.int x8), .val (.int x9), .val (.int ((((fg.toUInt32 >>> ((4 : Int32) &&& 31).toUInt32).toInt32) &&& (255 : Int32)) % (3 : Int32))), .val (.int (c0 &&& (255 : Int32))), .val (.int (c1 &&& (255 : Int32))), .val (.ref tx), .val rs, .val fl, .val (.ref b70)] [])) (fun _ k => XS.goto X75.here hx rfl (pc0 := 270) (pc' := 322) rfl (hb hby at_270) (by decide) (by decide) k) ?_
                    refine OwnFin.adv (B := T75.setTop (mkF m 324 #[.val (.int sel), .val (.int c0), .val (.int c1), .val (.int fg), .val (.ref b1), .val (.ref sa), .val (.int x6), .val (.int x7), .val (.int x8), .val (.int x9), .val (.int ((((fg.toUInt32 >>> ((4 : Int32) &&& 31).toUInt32).toInt32) &&& (255 : Int32)) % (3 : Int32))), .val (.int (c0 &&& (255 : Int32))), .val (.int (c1 &&& (255 : Int32))), .val (.ref tx), .val rs, .val fl, .val (.ref b70)] [(.ref b70)])) (fun _ k => XS.aload X75.here hx rfl (hb hby at_322) rfl rfl k) ?_
                    have Fv84_3 : Exa Z T75.heap b70 "com/example/klotho/klotho/WorkflowOutcome" := (Fv76_2.keep K75)
                    obtain ⟨cq83, kq83, q83a, q83b, q83c⟩ := isOf hZ rfl Fv84_3
                    obtain ⟨_, _, ⟨T83, L83, k83, n83⟩, -, X83, ⟨Lc83, hQ83, l83, y83, z83⟩, st83⟩ := X75.virtualBack hx (y := (⟨"com/example/klotho/klotho/WorkflowOutcome", "isRefused", "()Z"⟩ : MethodName)) (z := (⟨"com/example/klotho/klotho/WorkflowOutcome", "isRefused", "()Z"⟩ : MethodName)) hown (mvT hZ (hw _ (List.mem_of_getElem? (i := 79) rfl))) (mvT hZ (hw _ (List.mem_of_getElem? (i := 80) rfl))) (notFace_of_selects (args := #[]) (mvT hZ (hw _ (List.mem_of_getElem? (i := 82) rfl)))) (mvT hZ (hw _ (List.mem_of_getElem? (i := 82) rfl))) (mvT hZ (hw _ (List.mem_of_getElem? (i := 81) rfl))) (by decide) (backOf (W := 0) (own_refR l Z a0 hw [] b70 tx T75.heap n0 (by omega) Fr75) hZ (hw _ (List.mem_of_getElem? (i := 83) rfl)) (hw _ (List.mem_of_getElem? (i := 44) rfl)) (by decide) (by decide)) q83a q83c (g := (mkF m 324 #[.val (.int sel), .val (.int c0), .val (.int c1), .val (.int fg), .val (.ref b1), .val (.ref sa), .val (.int x6), .val (.int x7), .val (.int x8), .val (.int x9), .val (.int ((((fg.toUInt32 >>> ((4 : Int32) &&& 31).toUInt32).toInt32) &&& (255 : Int32)) % (3 : Int32))), .val (.int (c0 &&& (255 : Int32))), .val (.int (c1 &&& (255 : Int32))), .val (.ref tx), .val rs, .val fl, .val (.ref b70)] [(.ref b70)])) rfl (by rw [hml]; rfl) (Steps.refl _) (argsL := []) (rest := []) (lenOf own_pd_x28x29Z rfl) rfl (by show 2 * 0 + _ ≤ _; exact Nat.le_of_eq rfl) (hb hby at_324) (fun _ _ => ⟨rfl, rfl, (by decide : 23 + 0 ≤ _), (by decide : 114 + 0 ≤ _)⟩)
                    dsimp only [Pt.U, Pt.locs, Pt.cells, Pt.slots] at X83 l83 y83 z83 st83 hQ83
                    subst l83 y83 z83
                    obtain ⟨rfl, N83q, eh83⟩ := hQ83
                    have N83 := Fr.app N75 N83q
                    refine OwnFin.adv (B := T83.setTop (mkF m 327 #[.val (.int sel), .val (.int c0), .val (.int c1), .val (.int fg), .val (.ref b1), .val (.ref sa), .val (.int x6), .val (.int x7), .val (.int x8), .val (.int x9), .val (.int ((((fg.toUInt32 >>> ((4 : Int32) &&& 31).toUInt32).toInt32) &&& (255 : Int32)) % (3 : Int32))), .val (.int (c0 &&& (255 : Int32))), .val (.int (c1 &&& (255 : Int32))), .val (.ref tx), .val rs, .val fl, .val (.ref b70)] [(.int (1 : Int32))])) (fun _ k => st83.trans k) ?_
                    refine OwnFin.adv (B := T83.setTop (mkF m 329 #[.val (.int sel), .val (.int c0), .val (.int c1), .val (.int fg), .val (.ref b1), .val (.ref sa), .val (.int x6), .val (.int x7), .val (.int x8), .val (.int x9), .val (.int ((((fg.toUInt32 >>> ((4 : Int32) &&& 31).toUInt32).toInt32) &&& (255 : Int32)) % (3 : Int32))), .val (.int (c0 &&& (255 : Int32))), .val (.int (c1 &&& (255 : Int32))), .val (.ref tx), .val rs, .val fl, .val (.ref b70)] [(.int x6), (.int (1 : Int32))])) (fun _ k => XS.iload X83.here hx rfl (hb hby at_327) rfl k) ?_
                    have hc329_104 : (1 : Int32) = x6 := own_not0 h01_x6 hc245
                    refine OwnFin.adv (B := T83.setTop (mkF m 334 #[.val (.int sel), .val (.int c0), .val (.int c1), .val (.int fg), .val (.ref b1), .val (.ref sa), .val (.int x6), .val (.int x7), .val (.int x8), .val (.int x9), .val (.int ((((fg.toUInt32 >>> ((4 : Int32) &&& 31).toUInt32).toInt32) &&& (255 : Int32)) % (3 : Int32))), .val (.int (c0 &&& (255 : Int32))), .val (.int (c1 &&& (255 : Int32))), .val (.ref tx), .val rs, .val fl, .val (.ref b70)] [])) (fun _ k => XS.icmpYes X83.here hx rfl (pc0 := 329) (pc' := 334) rfl (hb hby at_329) rfl (teq hc329_104).1 (by decide) (by decide) k) ?_
                    refine OwnFin.adv (B := T83.setTop (mkF m 336 #[.val (.int sel), .val (.int c0), .val (.int c1), .val (.int fg), .val (.ref b1), .val (.ref sa), .val (.int x6), .val (.int x7), .val (.int x8), .val (.int x9), .val (.int ((((fg.toUInt32 >>> ((4 : Int32) &&& 31).toUInt32).toInt32) &&& (255 : Int32)) % (3 : Int32))), .val (.int (c0 &&& (255 : Int32))), .val (.int (c1 &&& (255 : Int32))), .val (.ref tx), .val rs, .val fl, .val (.ref b70)] [(.int x6)])) (fun _ k => XS.iload X83.here hx rfl (hb hby at_334) rfl k) ?_
                    have hc336_106 : ¬ (x6 = (0 : Int32)) := hc245
                    refine OwnFin.adv (B := T83.setTop (mkF m 339 #[.val (.int sel), .val (.int c0), .val (.int c1), .val (.int fg), .val (.ref b1), .val (.ref sa), .val (.int x6), .val (.int x7), .val (.int x8), .val (.int x9), .val (.int ((((fg.toUInt32 >>> ((4 : Int32) &&& 31).toUInt32).toInt32) &&& (255 : Int32)) % (3 : Int32))), .val (.int (c0 &&& (255 : Int32))), .val (.int (c1 &&& (255 : Int32))), .val (.ref tx), .val rs, .val fl, .val (.ref b70)] [])) (fun _ k => XS.ifNo X83.here hx rfl (hb hby at_336) rfl ((if0 _ _).trans (feq hc336_106).1) k) ?_
                    refine OwnFin.adv (B := T83.setTop (mkF m 341 #[.val (.int sel), .val (.int c0), .val (.int c1), .val (.int fg), .val (.ref b1), .val (.ref sa), .val (.int x6), .val (.int x7), .val (.int x8), .val (.int x9), .val (.int ((((fg.toUInt32 >>> ((4 : Int32) &&& 31).toUInt32).toInt32) &&& (255 : Int32)) % (3 : Int32))), .val (.int (c0 &&& (255 : Int32))), .val (.int (c1 &&& (255 : Int32))), .val (.ref tx), .val rs, .val fl, .val (.ref b70)] [(.ref b70)])) (fun _ k => XS.aload X83.here hx rfl (hb hby at_339) rfl rfl k) ?_
                    obtain ⟨cq85, kq85, q85a, q85b, q85c⟩ := isOf hZ eh83 Fv84_3
                    obtain ⟨_, _, ⟨T85, L85, k85, n85⟩, -, X85, ⟨Lc85, hQ85, l85, y85, z85⟩, st85⟩ := X83.virtualBack hx (y := (⟨"com/example/klotho/klotho/WorkflowOutcome", "refusal", "()Ljava/lang/String;"⟩ : MethodName)) (z := (⟨"com/example/klotho/klotho/WorkflowOutcome", "refusal", "()Ljava/lang/String;"⟩ : MethodName)) hown (mvT hZ (hw _ (List.mem_of_getElem? (i := 84) rfl))) (mvT hZ (hw _ (List.mem_of_getElem? (i := 85) rfl))) (notFace_of_selects (args := #[]) (mvT hZ (hw _ (List.mem_of_getElem? (i := 87) rfl)))) (mvT hZ (hw _ (List.mem_of_getElem? (i := 87) rfl))) (mvT hZ (hw _ (List.mem_of_getElem? (i := 86) rfl))) (by decide) (backOf (W := 0) (own_refusal l Z a0 hw [] b70 tx T75.heap n0 (by omega) Fr75) hZ (hw _ (List.mem_of_getElem? (i := 88) rfl)) (hw _ (List.mem_of_getElem? (i := 44) rfl)) (by decide) (by decide)) q85a q85c (g := (mkF m 341 #[.val (.int sel), .val (.int c0), .val (.int c1), .val (.int fg), .val (.ref b1), .val (.ref sa), .val (.int x6), .val (.int x7), .val (.int x8), .val (.int x9), .val (.int ((((fg.toUInt32 >>> ((4 : Int32) &&& 31).toUInt32).toInt32) &&& (255 : Int32)) % (3 : Int32))), .val (.int (c0 &&& (255 : Int32))), .val (.int (c1 &&& (255 : Int32))), .val (.ref tx), .val rs, .val fl, .val (.ref b70)] [(.ref b70)])) rfl (by rw [hml]; rfl) (Steps.refl _) (argsL := []) (rest := []) (lenOf own_pd_x28x29Ljavax2flangx2fStringx3b rfl) rfl (by show 2 * 0 + _ ≤ _; exact Nat.le_of_eq rfl) (hb hby at_341) (fun _ _ => ⟨rfl, eh83, (by decide : 23 + 0 ≤ _), (by decide : 114 + 0 ≤ _)⟩)
                    dsimp only [Pt.U, Pt.locs, Pt.cells, Pt.slots] at X85 l85 y85 z85 st85 hQ85
                    subst l85 y85 z85
                    obtain ⟨rfl, N85q, eh85⟩ := hQ85
                    have N85 := Fr.app N83 N85q
                    refine OwnFin.adv (B := T85.setTop (mkF m 344 #[.val (.int sel), .val (.int c0), .val (.int c1), .val (.int fg), .val (.ref b1), .val (.ref sa), .val (.int x6), .val (.int x7), .val (.int x8), .val (.int x9), .val (.int ((((fg.toUInt32 >>> ((4 : Int32) &&& 31).toUInt32).toInt32) &&& (255 : Int32)) % (3 : Int32))), .val (.int (c0 &&& (255 : Int32))), .val (.int (c1 &&& (255 : Int32))), .val (.ref tx), .val rs, .val fl, .val (.ref b70)] [(.ref tx)])) (fun _ k => st85.trans k) ?_
                    refine OwnFin.adv (B := T85.setTop (mkF m 346 #[.val (.int sel), .val (.int c0), .val (.int c1), .val (.int fg), .val (.ref b1), .val (.ref sa), .val (.int x6), .val (.int x7), .val (.int x8), .val (.int x9), .val (.int ((((fg.toUInt32 >>> ((4 : Int32) &&& 31).toUInt32).toInt32) &&& (255 : Int32)) % (3 : Int32))), .val (.int (c0 &&& (255 : Int32))), .val (.int (c1 &&& (255 : Int32))), .val (.ref tx), .val rs, .val fl, .val (.ref b70)] [(.ref tx), (.ref tx)])) (fun _ k => XS.aload X85.here hx rfl (hb hby at_344) rfl rfl k) ?_
                    refine OwnFin.adv (B := T85.setTop (mkF m 351 #[.val (.int sel), .val (.int c0), .val (.int c1), .val (.int fg), .val (.ref b1), .val (.ref sa), .val (.int x6), .val (.int x7), .val (.int x8), .val (.int x9), .val (.int ((((fg.toUInt32 >>> ((4 : Int32) &&& 31).toUInt32).toInt32) &&& (255 : Int32)) % (3 : Int32))), .val (.int (c0 &&& (255 : Int32))), .val (.int (c1 &&& (255 : Int32))), .val (.ref tx), .val rs, .val fl, .val (.ref b70)] [])) (fun _ k => Jvm.RoadKit.acmp (g := (mkF m 346 #[.val (.int sel), .val (.int c0), .val (.int c1), .val (.int fg), .val (.ref b1), .val (.ref sa), .val (.int x6), .val (.int x7), .val (.int x8), .val (.int x9), .val (.int ((((fg.toUInt32 >>> ((4 : Int32) &&& 31).toUInt32).toInt32) &&& (255 : Int32)) % (3 : Int32))), .val (.int (c0 &&& (255 : Int32))), .val (.int (c1 &&& (255 : Int32))), .val (.ref tx), .val rs, .val fl, .val (.ref b70)] [(.ref tx), (.ref tx)])) X85 hx rfl rfl rfl (pc0 := 346) (pc' := 351) (same := true) rfl (hb hby at_346) rfl (decide_eq_true rfl) (by decide) (by decide) k) ?_
                    refine OwnFin.adv (B := T85.setTop (mkF m 353 #[.val (.int sel), .val (.int c0), .val (.int c1), .val (.int fg), .val (.ref b1), .val (.ref sa), .val (.int x6), .val (.int x7), .val (.int x8), .val (.int x9), .val (.int ((((fg.toUInt32 >>> ((4 : Int32) &&& 31).toUInt32).toInt32) &&& (255 : Int32)) % (3 : Int32))), .val (.int (c0 &&& (255 : Int32))), .val (.int (c1 &&& (255 : Int32))), .val (.ref tx), .val rs, .val fl, .val (.ref b70)] [(.int x6)])) (fun _ k => XS.iload X85.here hx rfl (hb hby at_351) rfl k) ?_
                    have hc353_112 : ¬ (x6 = (0 : Int32)) := hc245
                    refine OwnFin.adv (B := T85.setTop (mkF m 356 #[.val (.int sel), .val (.int c0), .val (.int c1), .val (.int fg), .val (.ref b1), .val (.ref sa), .val (.int x6), .val (.int x7), .val (.int x8), .val (.int x9), .val (.int ((((fg.toUInt32 >>> ((4 : Int32) &&& 31).toUInt32).toInt32) &&& (255 : Int32)) % (3 : Int32))), .val (.int (c0 &&& (255 : Int32))), .val (.int (c1 &&& (255 : Int32))), .val (.ref tx), .val rs, .val fl, .val (.ref b70)] [])) (fun _ k => XS.ifNo X85.here hx rfl (hb hby at_353) rfl ((if0 _ _).trans (feq hc353_112).1) k) ?_
                    refine OwnFin.adv (B := T85.setTop (mkF m 358 #[.val (.int sel), .val (.int c0), .val (.int c1), .val (.int fg), .val (.ref b1), .val (.ref sa), .val (.int x6), .val (.int x7), .val (.int x8), .val (.int x9), .val (.int ((((fg.toUInt32 >>> ((4 : Int32) &&& 31).toUInt32).toInt32) &&& (255 : Int32)) % (3 : Int32))), .val (.int (c0 &&& (255 : Int32))), .val (.int (c1 &&& (255 : Int32))), .val (.ref tx), .val rs, .val fl, .val (.ref b70)] [(.ref b70)])) (fun _ k => XS.aload X85.here hx rfl (hb hby at_356) rfl rfl k) ?_
                    obtain ⟨cq86, kq86, q86a, q86b, q86c⟩ := isOf hZ eh85 Fv84_3
                    obtain ⟨_, _, ⟨T86, L86, k86, n86⟩, -, X86, ⟨Lc86, hQ86, l86, y86, z86⟩, st86⟩ := X85.virtualBack hx (y := (⟨"com/example/klotho/klotho/WorkflowOutcome", "isRunningElsewhere", "()Z"⟩ : MethodName)) (z := (⟨"com/example/klotho/klotho/WorkflowOutcome", "isRunningElsewhere", "()Z"⟩ : MethodName)) hown (mvT hZ (hw _ (List.mem_of_getElem? (i := 89) rfl))) (mvT hZ (hw _ (List.mem_of_getElem? (i := 90) rfl))) (notFace_of_selects (args := #[]) (mvT hZ (hw _ (List.mem_of_getElem? (i := 92) rfl)))) (mvT hZ (hw _ (List.mem_of_getElem? (i := 92) rfl))) (mvT hZ (hw _ (List.mem_of_getElem? (i := 91) rfl))) (by decide) (backOf (W := 0) (own_runE l Z a0 hw [] b70 tx T75.heap n0 (by omega) Fr75) hZ (hw _ (List.mem_of_getElem? (i := 93) rfl)) (hw _ (List.mem_of_getElem? (i := 44) rfl)) (by decide) (by decide)) q86a q86c (g := (mkF m 358 #[.val (.int sel), .val (.int c0), .val (.int c1), .val (.int fg), .val (.ref b1), .val (.ref sa), .val (.int x6), .val (.int x7), .val (.int x8), .val (.int x9), .val (.int ((((fg.toUInt32 >>> ((4 : Int32) &&& 31).toUInt32).toInt32) &&& (255 : Int32)) % (3 : Int32))), .val (.int (c0 &&& (255 : Int32))), .val (.int (c1 &&& (255 : Int32))), .val (.ref tx), .val rs, .val fl, .val (.ref b70)] [(.ref b70)])) rfl (by rw [hml]; rfl) (Steps.refl _) (argsL := []) (rest := []) (lenOf own_pd_x28x29Z rfl) rfl (by show 2 * 0 + _ ≤ _; exact Nat.le_of_eq rfl) (hb hby at_358) (fun _ _ => ⟨rfl, eh85, (by decide : 23 + 0 ≤ _), (by decide : 114 + 0 ≤ _)⟩)
                    dsimp only [Pt.U, Pt.locs, Pt.cells, Pt.slots] at X86 l86 y86 z86 st86 hQ86
                    subst l86 y86 z86
                    obtain ⟨rfl, N86q, eh86⟩ := hQ86
                    have N86 := Fr.app N85 N86q
                    refine OwnFin.adv (B := T86.setTop (mkF m 361 #[.val (.int sel), .val (.int c0), .val (.int c1), .val (.int fg), .val (.ref b1), .val (.ref sa), .val (.int x6), .val (.int x7), .val (.int x8), .val (.int x9), .val (.int ((((fg.toUInt32 >>> ((4 : Int32) &&& 31).toUInt32).toInt32) &&& (255 : Int32)) % (3 : Int32))), .val (.int (c0 &&& (255 : Int32))), .val (.int (c1 &&& (255 : Int32))), .val (.ref tx), .val rs, .val fl, .val (.ref b70)] [(.int (0 : Int32))])) (fun _ k => st86.trans k) ?_
                    have hc361_115 : (0 : Int32) = (0 : Int32) := by decide
                    refine OwnFin.adv (B := T86.setTop (mkF m 366 #[.val (.int sel), .val (.int c0), .val (.int c1), .val (.int fg), .val (.ref b1), .val (.ref sa), .val (.int x6), .val (.int x7), .val (.int x8), .val (.int x9), .val (.int ((((fg.toUInt32 >>> ((4 : Int32) &&& 31).toUInt32).toInt32) &&& (255 : Int32)) % (3 : Int32))), .val (.int (c0 &&& (255 : Int32))), .val (.int (c1 &&& (255 : Int32))), .val (.ref tx), .val rs, .val fl, .val (.ref b70)] [])) (fun _ k => XS.ifYes X86.here hx rfl (pc0 := 361) (pc' := 366) rfl (hb hby at_361) rfl ((if0 _ _).trans (teq hc361_115).1) (by decide) (by decide) k) ?_
                    refine OwnFin.adv (B := T86.setTop (mkF m 367 #[.val (.int sel), .val (.int c0), .val (.int c1), .val (.int fg), .val (.ref b1), .val (.ref sa), .val (.int x6), .val (.int x7), .val (.int x8), .val (.int x9), .val (.int ((((fg.toUInt32 >>> ((4 : Int32) &&& 31).toUInt32).toInt32) &&& (255 : Int32)) % (3 : Int32))), .val (.int (c0 &&& (255 : Int32))), .val (.int (c1 &&& (255 : Int32))), .val (.ref tx), .val rs, .val fl, .val (.ref b70)] [(.int (1 : Int32))])) (fun _ k => XS.iconst X86.here hx rfl (hb hby at_366) k) ?_
                    obtain ⟨fs, hr, hrun, hended, hE⟩ := X86.leaveW hSJ (by rw [eh86]; omega) (v := some (.int (1 : Int32))) (fun h => by rw [Bd.returns] at h; cases h)
                    refine OwnFin.leaf hP' ⟨_, _, retN X86 hx (t := .boolean) Bd.returns (by simp) (hb hby at_367) hr, hrun, hended, _, _, rfl, ?_, own_monoW hE (by decide) (by decide)⟩
                    exact ⟨rfl, N86⟩
                by_cases hc221 : x8 = (0 : Int32)
                ·
                  refine OwnFin.adv (B := TJ.setTop (mkF m 240 #[.val (.int sel), .val (.int c0), .val (.int c1), .val (.int fg), .val (.ref b1), .val (.ref sa), .val (.int x6), .val (.int x7), .val (.int x8), .val (.int x9), .val (.int ((((fg.toUInt32 >>> ((4 : Int32) &&& 31).toUInt32).toInt32) &&& (255 : Int32)) % (3 : Int32))), .val (.int (c0 &&& (255 : Int32))), .val (.int (c1 &&& (255 : Int32))), .val (.ref tx), .val rs, .unset, .unset] [])) (fun _ k => XS.ifYes XJ.here hx rfl (pc0 := 221) (pc' := 240) rfl (hb hby at_221) rfl ((if0 _ _).trans (teq hc221).1) (by decide) (by decide) k) ?_
                  refine OwnFin.adv (B := TJ.setTop (mkF m 241 #[.val (.int sel), .val (.int c0), .val (.int c1), .val (.int fg), .val (.ref b1), .val (.ref sa), .val (.int x6), .val (.int x7), .val (.int x8), .val (.int x9), .val (.int ((((fg.toUInt32 >>> ((4 : Int32) &&& 31).toUInt32).toInt32) &&& (255 : Int32)) % (3 : Int32))), .val (.int (c0 &&& (255 : Int32))), .val (.int (c1 &&& (255 : Int32))), .val (.ref tx), .val rs, .unset, .unset] [.null])) (fun _ k => XS.aconstNull XJ.here hx rfl (hb hby at_240) k) ?_
                  exact J241 tx rs .null hJ vmJ _ TJ _ (XJ.mono (by decide) (by decide)) eJ NJ hSJ (by omega) hZ hown OJ hr_rs rfl
                ·
                  refine OwnFin.adv (B := TJ.setTop (mkF m 224 #[.val (.int sel), .val (.int c0), .val (.int c1), .val (.int fg), .val (.ref b1), .val (.ref sa), .val (.int x6), .val (.int x7), .val (.int x8), .val (.int x9), .val (.int ((((fg.toUInt32 >>> ((4 : Int32) &&& 31).toUInt32).toInt32) &&& (255 : Int32)) % (3 : Int32))), .val (.int (c0 &&& (255 : Int32))), .val (.int (c1 &&& (255 : Int32))), .val (.ref tx), .val rs, .unset, .unset] [])) (fun _ k => XS.ifNo XJ.here hx rfl (hb hby at_221) rfl ((if0 _ _).trans (feq hc221).1) k) ?_
                  obtain ⟨T87, h87, X87, e87, E87, A87, D87, -, st87⟩ := newO XJ hx hZ hown (hw _ (List.mem_of_getElem? (i := 115) rfl)) (hw _ (List.mem_of_getElem? (i := 116) rfl)) (hw _ (List.mem_of_getElem? (i := 117) rfl)) eJ (g := (mkF m 224 #[.val (.int sel), .val (.int c0), .val (.int c1), .val (.int fg), .val (.ref b1), .val (.ref sa), .val (.int x6), .val (.int x7), .val (.int x8), .val (.int x9), .val (.int ((((fg.toUInt32 >>> ((4 : Int32) &&& 31).toUInt32).toInt32) &&& (255 : Int32)) % (3 : Int32))), .val (.int (c0 &&& (255 : Int32))), .val (.int (c1 &&& (255 : Int32))), .val (.ref tx), .val rs, .unset, .unset] [])) rfl (hb hby at_224) (by decide) (by decide)
                  obtain ⟨b87, g87⟩ : ∃ z, z = hJ.size := ⟨_, rfl⟩
                  rw [← g87] at A87 D87 st87
                  have sz88 : hJ.size ≤ h87.size := E87.1
                  have lt_b87 := own_lt A87.lt
                  have F87_errorType : Fld Z h87 b87 "com/example/klotho/klotho/RecordedFailure" "errorType" "Ljava/lang/String;" .null := D87 (Or.inr (hw _ (List.mem_of_getElem? (i := 133) rfl))) (ty := (.object "java/lang/String")) (by decide)
                  have F87_message : Fld Z h87 b87 "com/example/klotho/klotho/RecordedFailure" "message" "Ljava/lang/String;" .null := D87 (Or.inr (hw _ (List.mem_of_getElem? (i := 135) rfl))) (ty := (.object "java/lang/String")) (by decide)
                  refine OwnFin.adv (B := T87.setTop (mkF m 227 #[.val (.int sel), .val (.int c0), .val (.int c1), .val (.int fg), .val (.ref b1), .val (.ref sa), .val (.int x6), .val (.int x7), .val (.int x8), .val (.int x9), .val (.int ((((fg.toUInt32 >>> ((4 : Int32) &&& 31).toUInt32).toInt32) &&& (255 : Int32)) % (3 : Int32))), .val (.int (c0 &&& (255 : Int32))), .val (.int (c1 &&& (255 : Int32))), .val (.ref tx), .val rs, .unset, .unset] [(.ref b87)])) (fun _ k => st87 _ k) ?_
                  refine OwnFin.adv (B := T87.setTop (mkF m 228 #[.val (.int sel), .val (.int c0), .val (.int c1), .val (.int fg), .val (.ref b1), .val (.ref sa), .val (.int x6), .val (.int x7), .val (.int x8), .val (.int x9), .val (.int ((((fg.toUInt32 >>> ((4 : Int32) &&& 31).toUInt32).toInt32) &&& (255 : Int32)) % (3 : Int32))), .val (.int (c0 &&& (255 : Int32))), .val (.int (c1 &&& (255 : Int32))), .val (.ref tx), .val rs, .unset, .unset] [(.ref b87), (.ref b87)])) (fun _ k => XS.dup X87.here hx rfl (hb hby at_227) rfl rfl k) ?_
                  refine OwnFin.adv (B := T87.setTop (mkF m 230 #[.val (.int sel), .val (.int c0), .val (.int c1), .val (.int fg), .val (.ref b1), .val (.ref sa), .val (.int x6), .val (.int x7), .val (.int x8), .val (.int x9), .val (.int ((((fg.toUInt32 >>> ((4 : Int32) &&& 31).toUInt32).toInt32) &&& (255 : Int32)) % (3 : Int32))), .val (.int (c0 &&& (255 : Int32))), .val (.int (c1 &&& (255 : Int32))), .val (.ref tx), .val rs, .unset, .unset] [(.int (120 : Int32)), (.ref b87), (.ref b87)])) (fun _ k => XS.bipush X87.here hx rfl (hb hby at_228) k) ?_
                  have Old90 : Old Z n0 h87 := (OJ.ext E87)
                  obtain ⟨_, _, ⟨T89, L89, k89, n89⟩, -, X89, ⟨Lc89, hQ89, l89, y89, z89⟩, st89⟩ := Jvm.LawKit.callS X87 hx (y := (⟨"java/lang/String", "valueOf", "(C)Ljava/lang/String;"⟩ : MethodName)) hown (mvT hZ (hw _ (List.mem_of_getElem? (i := 45) rfl))) (mvT hZ (hw _ (List.mem_of_getElem? (i := 46) rfl))) (mvT hZ (hw _ (List.mem_of_getElem? (i := 22) rfl))) (mvT hZ (hw _ (List.mem_of_getElem? (i := 47) rfl))) (by decide) (backOf (W := 2) (own_strVal l Z a0 hw [] (120 : Int32) zc h87 n0 (by omega) Old90 SCS hzc (by decide)) hZ (hw _ (List.mem_of_getElem? (i := 47) rfl)) (hw _ (List.mem_of_getElem? (i := 22) rfl)) (by decide) (by decide)) (g := (mkF m 230 #[.val (.int sel), .val (.int c0), .val (.int c1), .val (.int fg), .val (.ref b1), .val (.ref sa), .val (.int x6), .val (.int x7), .val (.int x8), .val (.int x9), .val (.int ((((fg.toUInt32 >>> ((4 : Int32) &&& 31).toUInt32).toInt32) &&& (255 : Int32)) % (3 : Int32))), .val (.int (c0 &&& (255 : Int32))), .val (.int (c1 &&& (255 : Int32))), .val (.ref tx), .val rs, .unset, .unset] [(.int (120 : Int32)), (.ref b87), (.ref b87)])) rfl (by rw [hml]; rfl) (argsL := [(.int (120 : Int32))]) (rest := [(.ref b87), (.ref b87)]) (lenOf own_pd_x28Cx29Ljavax2flangx2fStringx3b rfl) rfl (by show 2 * 0 + _ ≤ _; exact Nat.le_of_eq rfl) (hb hby at_230) (fun _ _ => ⟨rfl, e87, (by decide : 14 + 2 ≤ _), (by decide : 43 + 5 ≤ _)⟩)
                  dsimp only [Pt.U, Pt.locs, Pt.cells, Pt.slots] at X89 l89 y89 z89 st89 hQ89
                  subst l89 y89 z89
                  obtain ⟨r89, t89, kb89, rfl, N89q, K89, ger89, get89, Er89, Fc89, Fv89, V89⟩ := hQ89
                  have N89 := Fr.app NJ N89q
                  have sz91 : h87.size ≤ T89.heap.size := K89.1
                  have lt_t89 := own_lt V89.lt
                  have lt_r89 := own_lt Er89.lt
                  refine OwnFin.adv (B := T89.setTop (mkF m 233 #[.val (.int sel), .val (.int c0), .val (.int c1), .val (.int fg), .val (.ref b1), .val (.ref sa), .val (.int x6), .val (.int x7), .val (.int x8), .val (.int x9), .val (.int ((((fg.toUInt32 >>> ((4 : Int32) &&& 31).toUInt32).toInt32) &&& (255 : Int32)) % (3 : Int32))), .val (.int (c0 &&& (255 : Int32))), .val (.int (c1 &&& (255 : Int32))), .val (.ref tx), .val rs, .unset, .unset] [(.ref r89), (.ref b87), (.ref b87)])) (fun _ k => st89 _ k) ?_
                  refine OwnFin.adv (B := T89.setTop (mkF m 234 #[.val (.int sel), .val (.int c0), .val (.int c1), .val (.int fg), .val (.ref b1), .val (.ref sa), .val (.int x6), .val (.int x7), .val (.int x8), .val (.int x9), .val (.int ((((fg.toUInt32 >>> ((4 : Int32) &&& 31).toUInt32).toInt32) &&& (255 : Int32)) % (3 : Int32))), .val (.int (c0 &&& (255 : Int32))), .val (.int (c1 &&& (255 : Int32))), .val (.ref tx), .val rs, .unset, .unset] [.null, (.ref r89), (.ref b87), (.ref b87)])) (fun _ k => XS.aconstNull X89.here hx rfl (hb hby at_233) k) ?_
                  have Fv93_2 : Exa Z T89.heap b87 "com/example/klotho/klotho/RecordedFailure" := (A87.keep K89)
                  have Fv94_2 : Fld Z T89.heap b87 "com/example/klotho/klotho/RecordedFailure" "errorType" "Ljava/lang/String;" .null := (F87_errorType.keep K89 nin0)
                  have Fv95_2 : Fld Z T89.heap b87 "com/example/klotho/klotho/RecordedFailure" "message" "Ljava/lang/String;" .null := (F87_message.keep K89 nin0)
                  obtain ⟨_, _, ⟨T92, L92, k92, n92⟩, -, X92, hSb92, hgr92, ⟨Lc92, hQ92, l92, y92, z92⟩, st92⟩ := Stand.specialBackS (s := (s.setVm vmJ)) X89 hx (y := (⟨"com/example/klotho/klotho/RecordedFailure", "<init>", "(Ljava/lang/String;Ljava/lang/String;)V"⟩ : MethodName)) rfl hown (mvT hZ (hw _ (List.mem_of_getElem? (i := 118) rfl))) (mvT hZ (hw _ (List.mem_of_getElem? (i := 119) rfl))) (mvT hZ (hw _ (List.mem_of_getElem? (i := 120) rfl))) (by decide) (backOfS (s := (s.setVm vmJ)) (W := 1) (own_rfInit l Z a0 hw [] b87 r89 t89 kb89 _ _ _ _ T89.heap n0 (by omega) Fv93_2 Er89 Fv94_2 Fv95_2 Fv89 V89 (by omega)) hZ (hw _ (List.mem_of_getElem? (i := 120) rfl)) (hw _ (List.mem_of_getElem? (i := 117) rfl)) (by decide) (by decide)) (g := (mkF m 234 #[.val (.int sel), .val (.int c0), .val (.int c1), .val (.int fg), .val (.ref b1), .val (.ref sa), .val (.int x6), .val (.int x7), .val (.int x8), .val (.int x9), .val (.int ((((fg.toUInt32 >>> ((4 : Int32) &&& 31).toUInt32).toInt32) &&& (255 : Int32)) % (3 : Int32))), .val (.int (c0 &&& (255 : Int32))), .val (.int (c1 &&& (255 : Int32))), .val (.ref tx), .val rs, .unset, .unset] [.null, (.ref r89), (.ref b87), (.ref b87)])) rfl (by rw [hml]; rfl) (Steps.refl _) (a := b87) (argsL := [(.ref r89), .null]) (rest := [(.ref b87)]) (lenOf own_pd_x28Ljavax2flangx2fStringx3bLjavax2flangx2fStringx3bx29V rfl) rfl (by show 2 * 0 + _ ≤ _; exact Nat.le_of_eq rfl) (hb hby at_234) (fun _ _ => ⟨rfl, rfl, (by decide : 16 + 2 ≤ _), (by decide : 48 + 40 ≤ _)⟩)
                  dsimp only [Pt.U, Pt.locs, Pt.cells, Pt.slots] at X92 l92 y92 z92 st92 hQ92 hSb92 hgr92
                  subst l92 y92 z92
                  obtain ⟨Xr92, hS92, hZ, hown⟩ := rebS (s := s) (vm0 := vmJ) hSJ (by omega) X92 hSb92 hgr92 hZ hown
                  have hkk92 : T92.heap.size ≤ T92.heap.size := Nat.le_refl _
                  obtain ⟨rfl, N92q, K92⟩ := hQ92
                  have N92 := Fr.app N89 N92q
                  have sz96 : T89.heap.size ≤ T92.heap.size := K92.1
                  refine OwnFin.adv (B := T92.setTop (mkF m 237 #[.val (.int sel), .val (.int c0), .val (.int c1), .val (.int fg), .val (.ref b1), .val (.ref sa), .val (.int x6), .val (.int x7), .val (.int x8), .val (.int x9), .val (.int ((((fg.toUInt32 >>> ((4 : Int32) &&& 31).toUInt32).toInt32) &&& (255 : Int32)) % (3 : Int32))), .val (.int (c0 &&& (255 : Int32))), .val (.int (c1 &&& (255 : Int32))), .val (.ref tx), .val rs, .unset, .unset] [(.ref b87)])) (fun _ k => st92.trans k) ?_
                  refine OwnFin.adv (B := T92.setTop (mkF m 241 #[.val (.int sel), .val (.int c0), .val (.int c1), .val (.int fg), .val (.ref b1), .val (.ref sa), .val (.int x6), .val (.int x7), .val (.int x8), .val (.int x9), .val (.int ((((fg.toUInt32 >>> ((4 : Int32) &&& 31).toUInt32).toInt32) &&& (255 : Int32)) % (3 : Int32))), .val (.int (c0 &&& (255 : Int32))), .val (.int (c1 &&& (255 : Int32))), .val (.ref tx), .val rs, .unset, .unset] [(.ref b87)])) (fun _ k => XS.goto Xr92.here hx rfl (pc0 := 237) (pc' := 241) rfl (hb hby at_237) (by decide) (by decide) k) ?_
                  have Old97 : Old Z n0 T92.heap := ((Old90.keep K89 all0).keep K92 (allS (by omega) all0))
                  exact J241 tx rs (.ref b87) T92.heap T92.vm _ T92 _ (Xr92.mono (by decide) (by decide)) rfl N92 hS92 (by omega) hZ hown Old97 hr_rs rfl
              by_cases hc206 : x9 = (0 : Int32)
              ·
                refine OwnFin.adv (B := TJ.setTop (mkF m 216 #[.val (.int sel), .val (.int c0), .val (.int c1), .val (.int fg), .val (.ref b1), .val (.ref sa), .val (.int x6), .val (.int x7), .val (.int x8), .val (.int x9), .val (.int ((((fg.toUInt32 >>> ((4 : Int32) &&& 31).toUInt32).toInt32) &&& (255 : Int32)) % (3 : Int32))), .val (.int (c0 &&& (255 : Int32))), .val (.int (c1 &&& (255 : Int32))), .val (.ref tx), .unset, .unset, .unset] [])) (fun _ k => XS.ifYes XJ.here hx rfl (pc0 := 206) (pc' := 216) rfl (hb hby at_206) rfl ((if0 _ _).trans (teq hc206).1) (by decide) (by decide) k) ?_
                refine OwnFin.adv (B := TJ.setTop (mkF m 217 #[.val (.int sel), .val (.int c0), .val (.int c1), .val (.int fg), .val (.ref b1), .val (.ref sa), .val (.int x6), .val (.int x7), .val (.int x8), .val (.int x9), .val (.int ((((fg.toUInt32 >>> ((4 : Int32) &&& 31).toUInt32).toInt32) &&& (255 : Int32)) % (3 : Int32))), .val (.int (c0 &&& (255 : Int32))), .val (.int (c1 &&& (255 : Int32))), .val (.ref tx), .unset, .unset, .unset] [.null])) (fun _ k => XS.aconstNull XJ.here hx rfl (hb hby at_216) k) ?_
                exact J217 tx .null hJ vmJ _ TJ _ (XJ.mono (by decide) (by decide)) eJ NJ hSJ (by omega) hZ hown OJ rfl
              ·
                refine OwnFin.adv (B := TJ.setTop (mkF m 209 #[.val (.int sel), .val (.int c0), .val (.int c1), .val (.int fg), .val (.ref b1), .val (.ref sa), .val (.int x6), .val (.int x7), .val (.int x8), .val (.int x9), .val (.int ((((fg.toUInt32 >>> ((4 : Int32) &&& 31).toUInt32).toInt32) &&& (255 : Int32)) % (3 : Int32))), .val (.int (c0 &&& (255 : Int32))), .val (.int (c1 &&& (255 : Int32))), .val (.ref tx), .unset, .unset, .unset] [])) (fun _ k => XS.ifNo XJ.here hx rfl (hb hby at_206) rfl ((if0 _ _).trans (feq hc206).1) k) ?_
                refine OwnFin.adv (B := TJ.setTop (mkF m 210 #[.val (.int sel), .val (.int c0), .val (.int c1), .val (.int fg), .val (.ref b1), .val (.ref sa), .val (.int x6), .val (.int x7), .val (.int x8), .val (.int x9), .val (.int ((((fg.toUInt32 >>> ((4 : Int32) &&& 31).toUInt32).toInt32) &&& (255 : Int32)) % (3 : Int32))), .val (.int (c0 &&& (255 : Int32))), .val (.int (c1 &&& (255 : Int32))), .val (.ref tx), .unset, .unset, .unset] [(.int c0)])) (fun _ k => XS.iloadN XJ.here hx rfl (hb hby at_209) rfl k) ?_
                obtain ⟨_, _, ⟨T98, L98, k98, n98⟩, -, X98, ⟨Lc98, hQ98, l98, y98, z98⟩, st98⟩ := Jvm.LawKit.callS XJ hx (y := (⟨"java/lang/Integer", "valueOf", "(I)Ljava/lang/Integer;"⟩ : MethodName)) hown (mvT hZ (hw _ (List.mem_of_getElem? (i := 94) rfl))) (mvT hZ (hw _ (List.mem_of_getElem? (i := 95) rfl))) (mvT hZ (hw _ (List.mem_of_getElem? (i := 96) rfl))) (mvT hZ (hw _ (List.mem_of_getElem? (i := 97) rfl))) (by decide) (backOf (W := 0) (own_valueOf l Z a0 hw [] c0 ca cl hJ n0 (by omega) OJ SH SC BX) hZ (hw _ (List.mem_of_getElem? (i := 97) rfl)) (hw _ (List.mem_of_getElem? (i := 96) rfl)) (by decide) (by decide)) (g := (mkF m 210 #[.val (.int sel), .val (.int c0), .val (.int c1), .val (.int fg), .val (.ref b1), .val (.ref sa), .val (.int x6), .val (.int x7), .val (.int x8), .val (.int x9), .val (.int ((((fg.toUInt32 >>> ((4 : Int32) &&& 31).toUInt32).toInt32) &&& (255 : Int32)) % (3 : Int32))), .val (.int (c0 &&& (255 : Int32))), .val (.int (c1 &&& (255 : Int32))), .val (.ref tx), .unset, .unset, .unset] [(.int c0)])) rfl (by rw [hml]; rfl) (argsL := [(.int c0)]) (rest := []) (lenOf own_pd_x28Ix29Ljavax2flangx2fIntegerx3b rfl) rfl (by show 2 * 0 + _ ≤ _; exact Nat.le_of_eq rfl) (hb hby at_210) (fun _ _ => ⟨rfl, eJ, (by decide : 12 + 1 ≤ _), (by decide : 40 + 1 ≤ _)⟩)
                dsimp only [Pt.U, Pt.locs, Pt.cells, Pt.slots] at X98 l98 y98 z98 st98 hQ98
                subst l98 y98 z98
                obtain ⟨bx98, rfl, N98q, K98, Ebx98⟩ := hQ98
                have N98 := Fr.app NJ N98q
                have sz99 : hJ.size ≤ T98.heap.size := K98.1
                refine OwnFin.adv (B := T98.setTop (mkF m 213 #[.val (.int sel), .val (.int c0), .val (.int c1), .val (.int fg), .val (.ref b1), .val (.ref sa), .val (.int x6), .val (.int x7), .val (.int x8), .val (.int x9), .val (.int ((((fg.toUInt32 >>> ((4 : Int32) &&& 31).toUInt32).toInt32) &&& (255 : Int32)) % (3 : Int32))), .val (.int (c0 &&& (255 : Int32))), .val (.int (c1 &&& (255 : Int32))), .val (.ref tx), .unset, .unset, .unset] [(.ref bx98)])) (fun _ k => st98 _ k) ?_
                refine OwnFin.adv (B := T98.setTop (mkF m 217 #[.val (.int sel), .val (.int c0), .val (.int c1), .val (.int fg), .val (.ref b1), .val (.ref sa), .val (.int x6), .val (.int x7), .val (.int x8), .val (.int x9), .val (.int ((((fg.toUInt32 >>> ((4 : Int32) &&& 31).toUInt32).toInt32) &&& (255 : Int32)) % (3 : Int32))), .val (.int (c0 &&& (255 : Int32))), .val (.int (c1 &&& (255 : Int32))), .val (.ref tx), .unset, .unset, .unset] [(.ref bx98)])) (fun _ k => XS.goto X98.here hx rfl (pc0 := 213) (pc' := 217) rfl (hb hby at_213) (by decide) (by decide) k) ?_
                have Old100 : Old Z n0 T98.heap := (OJ.keep K98 all0)
                exact J217 tx (.ref bx98) T98.heap vmJ _ T98 _ (X98.mono (by decide) (by decide)) rfl N98 hSJ (by omega) hZ hown Old100 rfl
            by_cases hc148 : ((((fg.toUInt32 >>> ((4 : Int32) &&& 31).toUInt32).toInt32) &&& (255 : Int32)) % (3 : Int32)) = (0 : Int32)
            ·
              refine OwnFin.adv (B := TJ.setTop (mkF m 151 #[.val (.int sel), .val (.int c0), .val (.int c1), .val (.int fg), .val (.ref b1), .val (.ref sa), .val (.int x6), .val (.int x7), .val (.int x8), .val (.int x9), .val (.int ((((fg.toUInt32 >>> ((4 : Int32) &&& 31).toUInt32).toInt32) &&& (255 : Int32)) % (3 : Int32))), .val (.int (c0 &&& (255 : Int32))), .val (.int (c1 &&& (255 : Int32))), .unset, .unset, .unset, .unset] [])) (fun _ k => XS.ifNo XJ.here hx rfl (hb hby at_148) rfl ((if0 _ _).trans (teq hc148).2) k) ?_
              obtain ⟨T101, h101, X101, e101, E101, A101, D101, -, st101⟩ := newO XJ hx hZ hown (hw _ (List.mem_of_getElem? (i := 20) rfl)) (hw _ (List.mem_of_getElem? (i := 21) rfl)) (hw _ (List.mem_of_getElem? (i := 22) rfl)) eJ (g := (mkF m 151 #[.val (.int sel), .val (.int c0), .val (.int c1), .val (.int fg), .val (.ref b1), .val (.ref sa), .val (.int x6), .val (.int x7), .val (.int x8), .val (.int x9), .val (.int ((((fg.toUInt32 >>> ((4 : Int32) &&& 31).toUInt32).toInt32) &&& (255 : Int32)) % (3 : Int32))), .val (.int (c0 &&& (255 : Int32))), .val (.int (c1 &&& (255 : Int32))), .unset, .unset, .unset, .unset] [])) rfl (hb hby at_151) (by decide) (by decide)
              obtain ⟨b101, g101⟩ : ∃ z, z = h33.size := ⟨_, rfl⟩
              rw [← g101] at A101 D101 st101
              have sz102 : h33.size ≤ h101.size := E101.1
              have chA102 : CHr Z own_EL s.vm h0 s.vm h101 := (chA34).trans (CHr.ext E101 (chA34).1)
              have lt_b101 := own_lt A101.lt
              have Sf101 : Safe Z own_EL s.vm h101 b101 := Safe.ext E101 (chA34).1 (Safe.new (Nat.le_of_eq g101.symm))
              have F101_value : Fld Z h101 b101 "java/lang/String" "value" "[B" .null := D101 (Or.inr (hw _ (List.mem_of_getElem? (i := 36) rfl))) (ty := (.array .byte)) (by decide)
              have F101_coder : Fld Z h101 b101 "java/lang/String" "coder" "B" (.int (0 : Int32)) := D101 (Or.inr (hw _ (List.mem_of_getElem? (i := 37) rfl))) (ty := .byte) (by decide)
              refine OwnFin.adv (B := T101.setTop (mkF m 154 #[.val (.int sel), .val (.int c0), .val (.int c1), .val (.int fg), .val (.ref b1), .val (.ref sa), .val (.int x6), .val (.int x7), .val (.int x8), .val (.int x9), .val (.int ((((fg.toUInt32 >>> ((4 : Int32) &&& 31).toUInt32).toInt32) &&& (255 : Int32)) % (3 : Int32))), .val (.int (c0 &&& (255 : Int32))), .val (.int (c1 &&& (255 : Int32))), .unset, .unset, .unset, .unset] [(.ref b101)])) (fun _ k => st101 _ k) ?_
              refine OwnFin.adv (B := T101.setTop (mkF m 155 #[.val (.int sel), .val (.int c0), .val (.int c1), .val (.int fg), .val (.ref b1), .val (.ref sa), .val (.int x6), .val (.int x7), .val (.int x8), .val (.int x9), .val (.int ((((fg.toUInt32 >>> ((4 : Int32) &&& 31).toUInt32).toInt32) &&& (255 : Int32)) % (3 : Int32))), .val (.int (c0 &&& (255 : Int32))), .val (.int (c1 &&& (255 : Int32))), .unset, .unset, .unset, .unset] [(.ref b101), (.ref b101)])) (fun _ k => XS.dup X101.here hx rfl (hb hby at_154) rfl rfl k) ?_
              refine OwnFin.adv (B := T101.setTop (mkF m 156 #[.val (.int sel), .val (.int c0), .val (.int c1), .val (.int fg), .val (.ref b1), .val (.ref sa), .val (.int x6), .val (.int x7), .val (.int x8), .val (.int x9), .val (.int ((((fg.toUInt32 >>> ((4 : Int32) &&& 31).toUInt32).toInt32) &&& (255 : Int32)) % (3 : Int32))), .val (.int (c0 &&& (255 : Int32))), .val (.int (c1 &&& (255 : Int32))), .unset, .unset, .unset, .unset] [(.int (0 : Int32)), (.ref b101), (.ref b101)])) (fun _ k => XS.iconst X101.here hx rfl (hb hby at_155) k) ?_
              obtain ⟨T103, h103, k103, X103, e103, E103, A103, st103⟩ := newP X101 hx hZ (hw _ (List.mem_of_getElem? (i := 23) rfl)) e101 (g := (mkF m 156 #[.val (.int sel), .val (.int c0), .val (.int c1), .val (.int fg), .val (.ref b1), .val (.ref sa), .val (.int x6), .val (.int x7), .val (.int x8), .val (.int x9), .val (.int ((((fg.toUInt32 >>> ((4 : Int32) &&& 31).toUInt32).toInt32) &&& (255 : Int32)) % (3 : Int32))), .val (.int (c0 &&& (255 : Int32))), .val (.int (c1 &&& (255 : Int32))), .unset, .unset, .unset, .unset] [(.int (0 : Int32)), (.ref b101), (.ref b101)])) rfl (hb hby at_156) rfl (by decide) (cap := 0) (by decide) (by decide) (by decide) (by decide)
              obtain ⟨b103, g103⟩ : ∃ z, z = h101.size := ⟨_, rfl⟩
              rw [← g103] at A103 st103
              have sz104 : h101.size ≤ h103.size := E103.1
              have chA104 : CHr Z own_EL s.vm h0 s.vm h103 := (chA102).trans (CHr.ext E103 (chA102).1)
              have lt_b103 := own_lt A103.lt
              have V103 : Arv Z h103 b103 k103 .char (0 : Int32) [] (.int (0 : Int32)) := (Arv.new A103 (by decide)).pad (pad_rep [] (.int (0 : Int32)) 0)
              refine OwnFin.adv (B := T103.setTop (mkF m 158 #[.val (.int sel), .val (.int c0), .val (.int c1), .val (.int fg), .val (.ref b1), .val (.ref sa), .val (.int x6), .val (.int x7), .val (.int x8), .val (.int x9), .val (.int ((((fg.toUInt32 >>> ((4 : Int32) &&& 31).toUInt32).toInt32) &&& (255 : Int32)) % (3 : Int32))), .val (.int (c0 &&& (255 : Int32))), .val (.int (c1 &&& (255 : Int32))), .unset, .unset, .unset, .unset] [(.ref b103), (.ref b101), (.ref b101)])) (fun _ k => st103 _ k) ?_
              have Fv106_11 : Exa Z h103 b101 "java/lang/String" := (A101.ext E103)
              have Fv107_11 : Fld Z h103 b101 "java/lang/String" "value" "[B" .null := (F101_value.ext E103)
              have Fv108_11 : Fld Z h103 b101 "java/lang/String" "coder" "B" (.int (0 : Int32)) := (F101_coder.ext E103)
              obtain ⟨_, _, ⟨T105, L105, k105, n105⟩, -, X105, hSb105, hgr105, ⟨Lc105, hQ105, l105, y105, z105, C105⟩, st105⟩ := Stand.specialBackS (s := (s.setVm s.vm)) X103 hx (y := (⟨"java/lang/String", "<init>", "([C)V"⟩ : MethodName)) rfl hown (mvT hZ (hw _ (List.mem_of_getElem? (i := 24) rfl))) (mvT hZ (hw _ (List.mem_of_getElem? (i := 25) rfl))) (mvT hZ (hw _ (List.mem_of_getElem? (i := 26) rfl))) (by decide) (backOfSH (s := s) (vm0 := s.vm) (W := 1) (own_strE2 l Z a0 hw [] b101 b103 _ _ _ h103 n0 (by omega) Fv106_11 Fv107_11 Fv108_11 (by omega) V103) hZ (hw _ (List.mem_of_getElem? (i := 26) rfl)) (hw _ (List.mem_of_getElem? (i := 22) rfl)) (by decide) (by decide) (own_EW hw) (chA104).1) (g := (mkF m 158 #[.val (.int sel), .val (.int c0), .val (.int c1), .val (.int fg), .val (.ref b1), .val (.ref sa), .val (.int x6), .val (.int x7), .val (.int x8), .val (.int x9), .val (.int ((((fg.toUInt32 >>> ((4 : Int32) &&& 31).toUInt32).toInt32) &&& (255 : Int32)) % (3 : Int32))), .val (.int (c0 &&& (255 : Int32))), .val (.int (c1 &&& (255 : Int32))), .unset, .unset, .unset, .unset] [(.ref b103), (.ref b101), (.ref b101)])) rfl (by rw [hml]; rfl) (Steps.refl _) (a := b101) (argsL := [(.ref b103)]) (rest := [(.ref b101)]) (lenOf own_pd_x28x5bCx29V rfl) rfl (by show 2 * 0 + _ ≤ _; exact Nat.le_of_eq rfl) (hb hby at_158) (fun _ _ => ⟨rfl, e103, (by decide : 3 + 4 ≤ _), (by decide : 12 + 8 ≤ _)⟩)
              dsimp only [Pt.U, Pt.locs, Pt.cells, Pt.slots] at X105 l105 y105 z105 st105 hQ105 hSb105 hgr105 C105
              subst l105 y105 z105
              obtain ⟨Xr105, hS105, hZ, hown⟩ := rebS (s := s) (vm0 := s.vm) (State.WarmedH.since (State.WarmedH.refl s) 0) (Nat.zero_le _) X105 hSb105 hgr105 hZ hown
              have hkk105 : T105.heap.size ≤ T105.heap.size := Nat.le_refl _
              obtain ⟨rfl, N105q, K105⟩ := hQ105
              have N105 := Fr.app NJ N105q
              have sz109 : h103.size ≤ T105.heap.size := K105.1
              have chA109 : CHr Z own_EL s.vm h0 T105.vm T105.heap := (chA104).trans C105
              refine OwnFin.adv (B := T105.setTop (mkF m 161 #[.val (.int sel), .val (.int c0), .val (.int c1), .val (.int fg), .val (.ref b1), .val (.ref sa), .val (.int x6), .val (.int x7), .val (.int x8), .val (.int x9), .val (.int ((((fg.toUInt32 >>> ((4 : Int32) &&& 31).toUInt32).toInt32) &&& (255 : Int32)) % (3 : Int32))), .val (.int (c0 &&& (255 : Int32))), .val (.int (c1 &&& (255 : Int32))), .unset, .unset, .unset, .unset] [(.ref b101)])) (fun _ k => st105.trans k) ?_
              refine OwnFin.adv (B := T105.setTop (mkF m 163 #[.val (.int sel), .val (.int c0), .val (.int c1), .val (.int fg), .val (.ref b1), .val (.ref sa), .val (.int x6), .val (.int x7), .val (.int x8), .val (.int x9), .val (.int ((((fg.toUInt32 >>> ((4 : Int32) &&& 31).toUInt32).toInt32) &&& (255 : Int32)) % (3 : Int32))), .val (.int (c0 &&& (255 : Int32))), .val (.int (c1 &&& (255 : Int32))), .val (.ref b101), .unset, .unset, .unset] [])) (fun _ k => XS.astore Xr105.here hx rfl (hb hby at_161) rfl rfl (l' := #[.val (.int sel), .val (.int c0), .val (.int c1), .val (.int fg), .val (.ref b1), .val (.ref sa), .val (.int x6), .val (.int x7), .val (.int x8), .val (.int x9), .val (.int ((((fg.toUInt32 >>> ((4 : Int32) &&& 31).toUInt32).toInt32) &&& (255 : Int32)) % (3 : Int32))), .val (.int (c0 &&& (255 : Int32))), .val (.int (c1 &&& (255 : Int32))), .val (.ref b101), .unset, .unset, .unset]) rfl k) ?_
              refine OwnFin.adv (B := T105.setTop (mkF m 204 #[.val (.int sel), .val (.int c0), .val (.int c1), .val (.int fg), .val (.ref b1), .val (.ref sa), .val (.int x6), .val (.int x7), .val (.int x8), .val (.int x9), .val (.int ((((fg.toUInt32 >>> ((4 : Int32) &&& 31).toUInt32).toInt32) &&& (255 : Int32)) % (3 : Int32))), .val (.int (c0 &&& (255 : Int32))), .val (.int (c1 &&& (255 : Int32))), .val (.ref b101), .unset, .unset, .unset] [])) (fun _ k => XS.goto Xr105.here hx rfl (pc0 := 163) (pc' := 204) rfl (hb hby at_163) (by decide) (by decide) k) ?_
              have Old110 : Old Z n0 T105.heap := ((((Old32.wr W33 (by omega)).ext E101).ext E103).keep K105 (allS (by omega) all0))
              exact J204 b101 T105.heap T105.vm _ T105 _ (Xr105.mono (by decide) (by decide)) rfl N105 hS105 (by omega) hZ hown Old110 
            ·
              refine OwnFin.adv (B := TJ.setTop (mkF m 166 #[.val (.int sel), .val (.int c0), .val (.int c1), .val (.int fg), .val (.ref b1), .val (.ref sa), .val (.int x6), .val (.int x7), .val (.int x8), .val (.int x9), .val (.int ((((fg.toUInt32 >>> ((4 : Int32) &&& 31).toUInt32).toInt32) &&& (255 : Int32)) % (3 : Int32))), .val (.int (c0 &&& (255 : Int32))), .val (.int (c1 &&& (255 : Int32))), .unset, .unset, .unset, .unset] [])) (fun _ k => XS.ifYes XJ.here hx rfl (pc0 := 148) (pc' := 166) rfl (hb hby at_148) rfl ((if0 _ _).trans (feq hc148).2) (by decide) (by decide) k) ?_
              refine OwnFin.adv (B := TJ.setTop (mkF m 168 #[.val (.int sel), .val (.int c0), .val (.int c1), .val (.int fg), .val (.ref b1), .val (.ref sa), .val (.int x6), .val (.int x7), .val (.int x8), .val (.int x9), .val (.int ((((fg.toUInt32 >>> ((4 : Int32) &&& 31).toUInt32).toInt32) &&& (255 : Int32)) % (3 : Int32))), .val (.int (c0 &&& (255 : Int32))), .val (.int (c1 &&& (255 : Int32))), .unset, .unset, .unset, .unset] [(.int ((((fg.toUInt32 >>> ((4 : Int32) &&& 31).toUInt32).toInt32) &&& (255 : Int32)) % (3 : Int32)))])) (fun _ k => XS.iload XJ.here hx rfl (hb hby at_166) rfl k) ?_
              refine OwnFin.adv (B := TJ.setTop (mkF m 169 #[.val (.int sel), .val (.int c0), .val (.int c1), .val (.int fg), .val (.ref b1), .val (.ref sa), .val (.int x6), .val (.int x7), .val (.int x8), .val (.int x9), .val (.int ((((fg.toUInt32 >>> ((4 : Int32) &&& 31).toUInt32).toInt32) &&& (255 : Int32)) % (3 : Int32))), .val (.int (c0 &&& (255 : Int32))), .val (.int (c1 &&& (255 : Int32))), .unset, .unset, .unset, .unset] [(.int (1 : Int32)), (.int ((((fg.toUInt32 >>> ((4 : Int32) &&& 31).toUInt32).toInt32) &&& (255 : Int32)) % (3 : Int32)))])) (fun _ k => XS.iconst XJ.here hx rfl (hb hby at_168) k) ?_
              by_cases hc169 : ((((fg.toUInt32 >>> ((4 : Int32) &&& 31).toUInt32).toInt32) &&& (255 : Int32)) % (3 : Int32)) = (1 : Int32)
              ·
                refine OwnFin.adv (B := TJ.setTop (mkF m 172 #[.val (.int sel), .val (.int c0), .val (.int c1), .val (.int fg), .val (.ref b1), .val (.ref sa), .val (.int x6), .val (.int x7), .val (.int x8), .val (.int x9), .val (.int ((((fg.toUInt32 >>> ((4 : Int32) &&& 31).toUInt32).toInt32) &&& (255 : Int32)) % (3 : Int32))), .val (.int (c0 &&& (255 : Int32))), .val (.int (c1 &&& (255 : Int32))), .unset, .unset, .unset, .unset] [])) (fun _ k => XS.icmpNo XJ.here hx rfl (hb hby at_169) rfl (teq hc169).2 k) ?_
                refine OwnFin.adv (B := TJ.setTop (mkF m 174 #[.val (.int sel), .val (.int c0), .val (.int c1), .val (.int fg), .val (.ref b1), .val (.ref sa), .val (.int x6), .val (.int x7), .val (.int x8), .val (.int x9), .val (.int ((((fg.toUInt32 >>> ((4 : Int32) &&& 31).toUInt32).toInt32) &&& (255 : Int32)) % (3 : Int32))), .val (.int (c0 &&& (255 : Int32))), .val (.int (c1 &&& (255 : Int32))), .unset, .unset, .unset, .unset] [(.int (c0 &&& (255 : Int32)))])) (fun _ k => XS.iload XJ.here hx rfl (hb hby at_172) rfl k) ?_
                have Old112 : Old Z n0 h33 := (Old32.wr W33 (by omega))
                obtain ⟨_, _, ⟨T111, L111, k111, n111⟩, -, X111, ⟨Lc111, hQ111, l111, y111, z111⟩, st111⟩ := Jvm.LawKit.callS XJ hx (y := (⟨"java/lang/String", "valueOf", "(C)Ljava/lang/String;"⟩ : MethodName)) hown (mvT hZ (hw _ (List.mem_of_getElem? (i := 45) rfl))) (mvT hZ (hw _ (List.mem_of_getElem? (i := 46) rfl))) (mvT hZ (hw _ (List.mem_of_getElem? (i := 22) rfl))) (mvT hZ (hw _ (List.mem_of_getElem? (i := 47) rfl))) (by decide) (backOf (W := 0) (own_strVal l Z a0 hw [] (c0 &&& (255 : Int32)) zc h33 n0 (by omega) Old112 SCS hzc (own_255 _)) hZ (hw _ (List.mem_of_getElem? (i := 47) rfl)) (hw _ (List.mem_of_getElem? (i := 22) rfl)) (by decide) (by decide)) (g := (mkF m 174 #[.val (.int sel), .val (.int c0), .val (.int c1), .val (.int fg), .val (.ref b1), .val (.ref sa), .val (.int x6), .val (.int x7), .val (.int x8), .val (.int x9), .val (.int ((((fg.toUInt32 >>> ((4 : Int32) &&& 31).toUInt32).toInt32) &&& (255 : Int32)) % (3 : Int32))), .val (.int (c0 &&& (255 : Int32))), .val (.int (c1 &&& (255 : Int32))), .unset, .unset, .unset, .unset] [(.int (c0 &&& (255 : Int32)))])) rfl (by rw [hml]; rfl) (argsL := [(.int (c0 &&& (255 : Int32)))]) (rest := []) (lenOf own_pd_x28Cx29Ljavax2flangx2fStringx3b rfl) rfl (by show 2 * 0 + _ ≤ _; exact Nat.le_of_eq rfl) (hb hby at_174) (fun _ _ => ⟨rfl, eJ, (by decide : 1 + 2 ≤ _), (by decide : 8 + 5 ≤ _)⟩)
                dsimp only [Pt.U, Pt.locs, Pt.cells, Pt.slots] at X111 l111 y111 z111 st111 hQ111
                subst l111 y111 z111
                obtain ⟨r111, t111, kb111, rfl, N111q, K111, ger111, get111, Er111, Fc111, Fv111, V111⟩ := hQ111
                have N111 := Fr.app NJ N111q
                have sz113 : h33.size ≤ T111.heap.size := K111.1
                have chA113 : CHr Z own_EL s.vm h0 s.vm T111.heap := (chA34).trans (CHr.keep K111 sf0 (chA34).1)
                have lt_t111 := own_lt V111.lt
                have lt_r111 := own_lt Er111.lt
                refine OwnFin.adv (B := T111.setTop (mkF m 177 #[.val (.int sel), .val (.int c0), .val (.int c1), .val (.int fg), .val (.ref b1), .val (.ref sa), .val (.int x6), .val (.int x7), .val (.int x8), .val (.int x9), .val (.int ((((fg.toUInt32 >>> ((4 : Int32) &&& 31).toUInt32).toInt32) &&& (255 : Int32)) % (3 : Int32))), .val (.int (c0 &&& (255 : Int32))), .val (.int (c1 &&& (255 : Int32))), .unset, .unset, .unset, .unset] [(.ref r111)])) (fun _ k => st111 _ k) ?_
                refine OwnFin.adv (B := T111.setTop (mkF m 179 #[.val (.int sel), .val (.int c0), .val (.int c1), .val (.int fg), .val (.ref b1), .val (.ref sa), .val (.int x6), .val (.int x7), .val (.int x8), .val (.int x9), .val (.int ((((fg.toUInt32 >>> ((4 : Int32) &&& 31).toUInt32).toInt32) &&& (255 : Int32)) % (3 : Int32))), .val (.int (c0 &&& (255 : Int32))), .val (.int (c1 &&& (255 : Int32))), .val (.ref r111), .unset, .unset, .unset] [])) (fun _ k => XS.astore X111.here hx rfl (hb hby at_177) rfl rfl (l' := #[.val (.int sel), .val (.int c0), .val (.int c1), .val (.int fg), .val (.ref b1), .val (.ref sa), .val (.int x6), .val (.int x7), .val (.int x8), .val (.int x9), .val (.int ((((fg.toUInt32 >>> ((4 : Int32) &&& 31).toUInt32).toInt32) &&& (255 : Int32)) % (3 : Int32))), .val (.int (c0 &&& (255 : Int32))), .val (.int (c1 &&& (255 : Int32))), .val (.ref r111), .unset, .unset, .unset]) rfl k) ?_
                refine OwnFin.adv (B := T111.setTop (mkF m 204 #[.val (.int sel), .val (.int c0), .val (.int c1), .val (.int fg), .val (.ref b1), .val (.ref sa), .val (.int x6), .val (.int x7), .val (.int x8), .val (.int x9), .val (.int ((((fg.toUInt32 >>> ((4 : Int32) &&& 31).toUInt32).toInt32) &&& (255 : Int32)) % (3 : Int32))), .val (.int (c0 &&& (255 : Int32))), .val (.int (c1 &&& (255 : Int32))), .val (.ref r111), .unset, .unset, .unset] [])) (fun _ k => XS.goto X111.here hx rfl (pc0 := 179) (pc' := 204) rfl (hb hby at_179) (by decide) (by decide) k) ?_
                have Old114 : Old Z n0 T111.heap := (Old112.keep K111 all0)
                exact J204 r111 T111.heap s.vm 0 T111 _ (X111.mono (by decide) (by decide)) rfl N111 (State.WarmedH.since (State.WarmedH.refl s) 0) (Nat.zero_le _) hZ hown Old114 
              ·
                refine OwnFin.adv (B := TJ.setTop (mkF m 182 #[.val (.int sel), .val (.int c0), .val (.int c1), .val (.int fg), .val (.ref b1), .val (.ref sa), .val (.int x6), .val (.int x7), .val (.int x8), .val (.int x9), .val (.int ((((fg.toUInt32 >>> ((4 : Int32) &&& 31).toUInt32).toInt32) &&& (255 : Int32)) % (3 : Int32))), .val (.int (c0 &&& (255 : Int32))), .val (.int (c1 &&& (255 : Int32))), .unset, .unset, .unset, .unset] [])) (fun _ k => XS.icmpYes XJ.here hx rfl (pc0 := 169) (pc' := 182) rfl (hb hby at_169) rfl (feq hc169).2 (by decide) (by decide) k) ?_
                obtain ⟨T115, h115, X115, e115, E115, A115, D115, -, st115⟩ := newO XJ hx hZ hown (hw _ (List.mem_of_getElem? (i := 20) rfl)) (hw _ (List.mem_of_getElem? (i := 21) rfl)) (hw _ (List.mem_of_getElem? (i := 22) rfl)) eJ (g := (mkF m 182 #[.val (.int sel), .val (.int c0), .val (.int c1), .val (.int fg), .val (.ref b1), .val (.ref sa), .val (.int x6), .val (.int x7), .val (.int x8), .val (.int x9), .val (.int ((((fg.toUInt32 >>> ((4 : Int32) &&& 31).toUInt32).toInt32) &&& (255 : Int32)) % (3 : Int32))), .val (.int (c0 &&& (255 : Int32))), .val (.int (c1 &&& (255 : Int32))), .unset, .unset, .unset, .unset] [])) rfl (hb hby at_182) (by decide) (by decide)
                obtain ⟨b115, g115⟩ : ∃ z, z = h33.size := ⟨_, rfl⟩
                rw [← g115] at A115 D115 st115
                have sz116 : h33.size ≤ h115.size := E115.1
                have chA116 : CHr Z own_EL s.vm h0 s.vm h115 := (chA34).trans (CHr.ext E115 (chA34).1)
                have lt_b115 := own_lt A115.lt
                have Sf115 : Safe Z own_EL s.vm h115 b115 := Safe.ext E115 (chA34).1 (Safe.new (Nat.le_of_eq g115.symm))
                have F115_value : Fld Z h115 b115 "java/lang/String" "value" "[B" .null := D115 (Or.inr (hw _ (List.mem_of_getElem? (i := 36) rfl))) (ty := (.array .byte)) (by decide)
                have F115_coder : Fld Z h115 b115 "java/lang/String" "coder" "B" (.int (0 : Int32)) := D115 (Or.inr (hw _ (List.mem_of_getElem? (i := 37) rfl))) (ty := .byte) (by decide)
                refine OwnFin.adv (B := T115.setTop (mkF m 185 #[.val (.int sel), .val (.int c0), .val (.int c1), .val (.int fg), .val (.ref b1), .val (.ref sa), .val (.int x6), .val (.int x7), .val (.int x8), .val (.int x9), .val (.int ((((fg.toUInt32 >>> ((4 : Int32) &&& 31).toUInt32).toInt32) &&& (255 : Int32)) % (3 : Int32))), .val (.int (c0 &&& (255 : Int32))), .val (.int (c1 &&& (255 : Int32))), .unset, .unset, .unset, .unset] [(.ref b115)])) (fun _ k => st115 _ k) ?_
                refine OwnFin.adv (B := T115.setTop (mkF m 186 #[.val (.int sel), .val (.int c0), .val (.int c1), .val (.int fg), .val (.ref b1), .val (.ref sa), .val (.int x6), .val (.int x7), .val (.int x8), .val (.int x9), .val (.int ((((fg.toUInt32 >>> ((4 : Int32) &&& 31).toUInt32).toInt32) &&& (255 : Int32)) % (3 : Int32))), .val (.int (c0 &&& (255 : Int32))), .val (.int (c1 &&& (255 : Int32))), .unset, .unset, .unset, .unset] [(.ref b115), (.ref b115)])) (fun _ k => XS.dup X115.here hx rfl (hb hby at_185) rfl rfl k) ?_
                refine OwnFin.adv (B := T115.setTop (mkF m 187 #[.val (.int sel), .val (.int c0), .val (.int c1), .val (.int fg), .val (.ref b1), .val (.ref sa), .val (.int x6), .val (.int x7), .val (.int x8), .val (.int x9), .val (.int ((((fg.toUInt32 >>> ((4 : Int32) &&& 31).toUInt32).toInt32) &&& (255 : Int32)) % (3 : Int32))), .val (.int (c0 &&& (255 : Int32))), .val (.int (c1 &&& (255 : Int32))), .unset, .unset, .unset, .unset] [(.int (2 : Int32)), (.ref b115), (.ref b115)])) (fun _ k => XS.iconst X115.here hx rfl (hb hby at_186) k) ?_
                obtain ⟨T117, h117, k117, X117, e117, E117, A117, st117⟩ := newP X115 hx hZ (hw _ (List.mem_of_getElem? (i := 23) rfl)) e115 (g := (mkF m 187 #[.val (.int sel), .val (.int c0), .val (.int c1), .val (.int fg), .val (.ref b1), .val (.ref sa), .val (.int x6), .val (.int x7), .val (.int x8), .val (.int x9), .val (.int ((((fg.toUInt32 >>> ((4 : Int32) &&& 31).toUInt32).toInt32) &&& (255 : Int32)) % (3 : Int32))), .val (.int (c0 &&& (255 : Int32))), .val (.int (c1 &&& (255 : Int32))), .unset, .unset, .unset, .unset] [(.int (2 : Int32)), (.ref b115), (.ref b115)])) rfl (hb hby at_187) rfl (by decide) (cap := 2) (by decide) (by decide) (by decide) (by decide)
                obtain ⟨b117, g117⟩ : ∃ z, z = h115.size := ⟨_, rfl⟩
                rw [← g117] at A117 st117
                have sz118 : h115.size ≤ h117.size := E117.1
                have chA118 : CHr Z own_EL s.vm h0 s.vm h117 := (chA116).trans (CHr.ext E117 (chA116).1)
                have lt_b117 := own_lt A117.lt
                have V117 : Arv Z h117 b117 k117 .char (2 : Int32) [(.int (0 : Int32)), (.int (0 : Int32))] (.int (0 : Int32)) := (Arv.new A117 (by decide)).pad (pad_rep [] (.int (0 : Int32)) 2)
                refine OwnFin.adv (B := T117.setTop (mkF m 189 #[.val (.int sel), .val (.int c0), .val (.int c1), .val (.int fg), .val (.ref b1), .val (.ref sa), .val (.int x6), .val (.int x7), .val (.int x8), .val (.int x9), .val (.int ((((fg.toUInt32 >>> ((4 : Int32) &&& 31).toUInt32).toInt32) &&& (255 : Int32)) % (3 : Int32))), .val (.int (c0 &&& (255 : Int32))), .val (.int (c1 &&& (255 : Int32))), .unset, .unset, .unset, .unset] [(.ref b117), (.ref b115), (.ref b115)])) (fun _ k => st117 _ k) ?_
                refine OwnFin.adv (B := T117.setTop (mkF m 190 #[.val (.int sel), .val (.int c0), .val (.int c1), .val (.int fg), .val (.ref b1), .val (.ref sa), .val (.int x6), .val (.int x7), .val (.int x8), .val (.int x9), .val (.int ((((fg.toUInt32 >>> ((4 : Int32) &&& 31).toUInt32).toInt32) &&& (255 : Int32)) % (3 : Int32))), .val (.int (c0 &&& (255 : Int32))), .val (.int (c1 &&& (255 : Int32))), .unset, .unset, .unset, .unset] [(.ref b117), (.ref b117), (.ref b115), (.ref b115)])) (fun _ k => XS.dup X117.here hx rfl (hb hby at_189) rfl rfl k) ?_
                refine OwnFin.adv (B := T117.setTop (mkF m 191 #[.val (.int sel), .val (.int c0), .val (.int c1), .val (.int fg), .val (.ref b1), .val (.ref sa), .val (.int x6), .val (.int x7), .val (.int x8), .val (.int x9), .val (.int ((((fg.toUInt32 >>> ((4 : Int32) &&& 31).toUInt32).toInt32) &&& (255 : Int32)) % (3 : Int32))), .val (.int (c0 &&& (255 : Int32))), .val (.int (c1 &&& (255 : Int32))), .unset, .unset, .unset, .unset] [(.int (0 : Int32)), (.ref b117), (.ref b117), (.ref b115), (.ref b115)])) (fun _ k => XS.iconst X117.here hx rfl (hb hby at_190) k) ?_
                refine OwnFin.adv (B := T117.setTop (mkF m 193 #[.val (.int sel), .val (.int c0), .val (.int c1), .val (.int fg), .val (.ref b1), .val (.ref sa), .val (.int x6), .val (.int x7), .val (.int x8), .val (.int x9), .val (.int ((((fg.toUInt32 >>> ((4 : Int32) &&& 31).toUInt32).toInt32) &&& (255 : Int32)) % (3 : Int32))), .val (.int (c0 &&& (255 : Int32))), .val (.int (c1 &&& (255 : Int32))), .unset, .unset, .unset, .unset] [(.int (c0 &&& (255 : Int32))), (.int (0 : Int32)), (.ref b117), (.ref b117), (.ref b115), (.ref b115)])) (fun _ k => XS.iload X117.here hx rfl (hb hby at_191) rfl k) ?_
                obtain ⟨cl119, Ar119, ck119, S119, M119, H119, G119⟩ := id V117
                have hin119 : ¬ ((0 : Int32) < 0 ∨ cl119.slots.size ≤ ((0 : Int32)).toNatClampNeg) := inb_of S119 ⟨by decide, by decide⟩
                obtain ⟨T119, h119, X119, e119, W119, st119⟩ := stC X117 hx hZ e117 Ar119 (j := (0 : Int32)) hin119 (g := (mkF m 193 #[.val (.int sel), .val (.int c0), .val (.int c1), .val (.int fg), .val (.ref b1), .val (.ref sa), .val (.int x6), .val (.int x7), .val (.int x8), .val (.int x9), .val (.int ((((fg.toUInt32 >>> ((4 : Int32) &&& 31).toUInt32).toInt32) &&& (255 : Int32)) % (3 : Int32))), .val (.int (c0 &&& (255 : Int32))), .val (.int (c1 &&& (255 : Int32))), .unset, .unset, .unset, .unset] [(.int (c0 &&& (255 : Int32))), (.int (0 : Int32)), (.ref b117), (.ref b117), (.ref b115), (.ref b115)])) rfl rfl (hb hby at_193)
                have V119 : Arv Z h119 b117 k117 .char (2 : Int32) [(.int (nar .char (c0 &&& (255 : Int32)))), (.int (0 : Int32))] (.int (0 : Int32)) := Arv.set Ar119 ck119 S119 M119 H119 G119 (fits_nar_char _) W119 0 rfl (Nat.le_of_ble_eq_true rfl)
                have V119s : Arv Z h119 b117 k117 .char (2 : Int32) [(.int (c0 &&& (255 : Int32))), (.int (0 : Int32))] (.int (0 : Int32)) := by
                  have q := V119
                  rw [show ((.int (nar .char (c0 &&& (255 : Int32)))) : Value) = (.int (c0 &&& (255 : Int32))) from congrArg Value.int (own_narm _)] at q
                  exact q
                have sz120 : h117.size ≤ h119.size := Nat.le_of_eq W119.size.symm
                have chA120 : CHr Z own_EL s.vm h0 s.vm h119 := (chA118).trans (CHr.wr W119 (Safe.arv hZ.alike V117 (by decide)) (chA118).1)
                have N119 := Fr.snoc X119 NJ (by omega : n0 ≤ b117)
                refine OwnFin.adv (B := T119.setTop (mkF m 194 #[.val (.int sel), .val (.int c0), .val (.int c1), .val (.int fg), .val (.ref b1), .val (.ref sa), .val (.int x6), .val (.int x7), .val (.int x8), .val (.int x9), .val (.int ((((fg.toUInt32 >>> ((4 : Int32) &&& 31).toUInt32).toInt32) &&& (255 : Int32)) % (3 : Int32))), .val (.int (c0 &&& (255 : Int32))), .val (.int (c1 &&& (255 : Int32))), .unset, .unset, .unset, .unset] [(.ref b117), (.ref b115), (.ref b115)])) (fun _ k => st119 _ k) ?_
                refine OwnFin.adv (B := T119.setTop (mkF m 195 #[.val (.int sel), .val (.int c0), .val (.int c1), .val (.int fg), .val (.ref b1), .val (.ref sa), .val (.int x6), .val (.int x7), .val (.int x8), .val (.int x9), .val (.int ((((fg.toUInt32 >>> ((4 : Int32) &&& 31).toUInt32).toInt32) &&& (255 : Int32)) % (3 : Int32))), .val (.int (c0 &&& (255 : Int32))), .val (.int (c1 &&& (255 : Int32))), .unset, .unset, .unset, .unset] [(.ref b117), (.ref b117), (.ref b115), (.ref b115)])) (fun _ k => XS.dup X119.here hx rfl (hb hby at_194) rfl rfl k) ?_
                refine OwnFin.adv (B := T119.setTop (mkF m 196 #[.val (.int sel), .val (.int c0), .val (.int c1), .val (.int fg), .val (.ref b1), .val (.ref sa), .val (.int x6), .val (.int x7), .val (.int x8), .val (.int x9), .val (.int ((((fg.toUInt32 >>> ((4 : Int32) &&& 31).toUInt32).toInt32) &&& (255 : Int32)) % (3 : Int32))), .val (.int (c0 &&& (255 : Int32))), .val (.int (c1 &&& (255 : Int32))), .unset, .unset, .unset, .unset] [(.int (1 : Int32)), (.ref b117), (.ref b117), (.ref b115), (.ref b115)])) (fun _ k => XS.iconst X119.here hx rfl (hb hby at_195) k) ?_
                refine OwnFin.adv (B := T119.setTop (mkF m 198 #[.val (.int sel), .val (.int c0), .val (.int c1), .val (.int fg), .val (.ref b1), .val (.ref sa), .val (.int x6), .val (.int x7), .val (.int x8), .val (.int x9), .val (.int ((((fg.toUInt32 >>> ((4 : Int32) &&& 31).toUInt32).toInt32) &&& (255 : Int32)) % (3 : Int32))), .val (.int (c0 &&& (255 : Int32))), .val (.int (c1 &&& (255 : Int32))), .unset, .unset, .unset, .unset] [(.int (c1 &&& (255 : Int32))), (.int (1 : Int32)), (.ref b117), (.ref b117), (.ref b115), (.ref b115)])) (fun _ k => XS.iload X119.here hx rfl (hb hby at_196) rfl k) ?_
                obtain ⟨cl121, Ar121, ck121, S121, M121, H121, G121⟩ := id V119s
                have hin121 : ¬ ((1 : Int32) < 0 ∨ cl121.slots.size ≤ ((1 : Int32)).toNatClampNeg) := inb_of S121 ⟨by decide, by decide⟩
                obtain ⟨T121, h121, X121, e121, W121, st121⟩ := stC X119 hx hZ e119 Ar121 (j := (1 : Int32)) hin121 (g := (mkF m 198 #[.val (.int sel), .val (.int c0), .val (.int c1), .val (.int fg), .val (.ref b1), .val (.ref sa), .val (.int x6), .val (.int x7), .val (.int x8), .val (.int x9), .val (.int ((((fg.toUInt32 >>> ((4 : Int32) &&& 31).toUInt32).toInt32) &&& (255 : Int32)) % (3 : Int32))), .val (.int (c0 &&& (255 : Int32))), .val (.int (c1 &&& (255 : Int32))), .unset, .unset, .unset, .unset] [(.int (c1 &&& (255 : Int32))), (.int (1 : Int32)), (.ref b117), (.ref b117), (.ref b115), (.ref b115)])) rfl rfl (hb hby at_198)
                have V121 : Arv Z h121 b117 k117 .char (2 : Int32) [(.int (c0 &&& (255 : Int32))), (.int (nar .char (c1 &&& (255 : Int32))))] (.int (0 : Int32)) := Arv.set Ar121 ck121 S121 M121 H121 G121 (fits_nar_char _) W121 1 rfl (Nat.le_of_ble_eq_true rfl)
                have V121s : Arv Z h121 b117 k117 .char (2 : Int32) [(.int (c0 &&& (255 : Int32))), (.int (c1 &&& (255 : Int32)))] (.int (0 : Int32)) := by
                  have q := V121
                  rw [show ((.int (nar .char (c1 &&& (255 : Int32)))) : Value) = (.int (c1 &&& (255 : Int32))) from congrArg Value.int (own_narm _)] at q
                  exact q
                have sz122 : h119.size ≤ h121.size := Nat.le_of_eq W121.size.symm
                have chA122 : CHr Z own_EL s.vm h0 s.vm h121 := (chA120).trans (CHr.wr W121 (Safe.arv hZ.alike V119s (by decide)) (chA120).1)
                have N121 := Fr.snoc X121 N119 (by omega : n0 ≤ b117)
                refine OwnFin.adv (B := T121.setTop (mkF m 199 #[.val (.int sel), .val (.int c0), .val (.int c1), .val (.int fg), .val (.ref b1), .val (.ref sa), .val (.int x6), .val (.int x7), .val (.int x8), .val (.int x9), .val (.int ((((fg.toUInt32 >>> ((4 : Int32) &&& 31).toUInt32).toInt32) &&& (255 : Int32)) % (3 : Int32))), .val (.int (c0 &&& (255 : Int32))), .val (.int (c1 &&& (255 : Int32))), .unset, .unset, .unset, .unset] [(.ref b117), (.ref b115), (.ref b115)])) (fun _ k => st121 _ k) ?_
                have hws124 : ∀ d ∈ StrChars.Road.words, d.before a0 Z = true := fun d hd => hw d ((by decide +kernel : ∀ d ∈ StrChars.Road.words, d ∈ tables_1) d hd)
                have hlat124 : ∀ c ∈ ([(c0 &&& (255 : Int32)), (c1 &&& (255 : Int32))] : List Int32), ¬ c < 0 ∧ ¬ (255 : Int32) < c := by
                  intro c hc
                  simp only [List.mem_cons, List.not_mem_nil, or_false] at hc
                  rcases hc with rfl | rfl <;> exact own_and255 _
                have Fv125_13 : Exa Z h121 b115 "java/lang/String" := (((A115.ext E117).wr W119).wr W121)
                have Fv126_13 : Fld Z h121 b115 "java/lang/String" "value" "[B" .null := (((F115_value.ext E117).other W119 (Or.inl (own_ne (by omega)))).other W121 (Or.inl (own_ne (by omega))))
                have Fv127_13 : Fld Z h121 b115 "java/lang/String" "coder" "B" (.int (0 : Int32)) := (((F115_coder.ext E117).other W119 (Or.inl (own_ne (by omega)))).other W121 (Or.inl (own_ne (by omega))))
                have Old128 : Old Z n0 h121 := (((((Old32.wr W33 (by omega)).ext E115).ext E117).wr W119 (by omega)).wr W121 (by omega))
                obtain ⟨_, _, ⟨T123, L123, k123, n123⟩, -, X123, ⟨Lc123, hQ123, l123, y123, z123⟩, st123⟩ := X121.specialBack hx (y := (⟨"java/lang/String", "<init>", "([C)V"⟩ : MethodName)) rfl hown (mvT hZ (hw _ (List.mem_of_getElem? (i := 24) rfl))) (mvT hZ (hw _ (List.mem_of_getElem? (i := 25) rfl))) (mvT hZ (hw _ (List.mem_of_getElem? (i := 26) rfl))) (by decide) (StrChars.Road.backV (W := 1) hZ hws124 (kI := 4) (hw _ (List.mem_of_getElem? (i := 21) rfl)) (cs := [(c0 &&& (255 : Int32)), (c1 &&& (255 : Int32))]) (bs := [((c0 &&& (255 : Int32))).toInt8.toInt32, ((c1 &&& (255 : Int32))).toInt8.toInt32]) (n := 2) (n0 := n0) (by omega) (by omega) Fv125_13 Fv126_13 Fv127_13 V121s (own_staK SCS Old128) hzc rfl rfl (by decide) (by decide) hlat124 rfl (by decide) (by decide)) (g := (mkF m 199 #[.val (.int sel), .val (.int c0), .val (.int c1), .val (.int fg), .val (.ref b1), .val (.ref sa), .val (.int x6), .val (.int x7), .val (.int x8), .val (.int x9), .val (.int ((((fg.toUInt32 >>> ((4 : Int32) &&& 31).toUInt32).toInt32) &&& (255 : Int32)) % (3 : Int32))), .val (.int (c0 &&& (255 : Int32))), .val (.int (c1 &&& (255 : Int32))), .unset, .unset, .unset, .unset] [(.ref b117), (.ref b115), (.ref b115)])) rfl (by rw [hml]; rfl) (Steps.refl _) (a := b115) (argsL := [(.ref b117)]) (rest := [(.ref b115)]) (lenOf own_pd_x28x5bCx29V rfl) rfl (by show 2 * 0 + _ ≤ _; exact Nat.le_of_eq rfl) (hb hby at_199) (fun _ _ => ⟨rfl, e121, (by decide : 3 + 1 ≤ _), (by decide : 14 + 2 ≤ _)⟩)
                dsimp only [Pt.U, Pt.locs, Pt.cells, Pt.slots] at X123 l123 y123 z123 st123 hQ123
                subst l123 y123 z123
                obtain ⟨rfl, N123q, K123, E123s, C123s, t123, kb123, u123a, u123b, u123c, F123v, V123b⟩ := hQ123
                have N123 := Fr.app N121 N123q
                have sz129 : h121.size ≤ T123.heap.size := K123.1
                have Sf130 : Safe Z own_EL s.vm h121 b115 := (Safe.wr W121 (Safe.arv hZ.alike V119s (by decide)) (chA120).1 (Safe.wr W119 (Safe.arv hZ.alike V117 (by decide)) (chA118).1 (Safe.ext E117 (chA116).1 Sf115)))
                have chA129 : CHr Z own_EL s.vm h0 s.vm T123.heap := (chA122).trans (CHr.keep K123 (sfS Sf130 sf0) (chA122).1)
                have lt_t123 := own_lt V123b.lt
                refine OwnFin.adv (B := T123.setTop (mkF m 202 #[.val (.int sel), .val (.int c0), .val (.int c1), .val (.int fg), .val (.ref b1), .val (.ref sa), .val (.int x6), .val (.int x7), .val (.int x8), .val (.int x9), .val (.int ((((fg.toUInt32 >>> ((4 : Int32) &&& 31).toUInt32).toInt32) &&& (255 : Int32)) % (3 : Int32))), .val (.int (c0 &&& (255 : Int32))), .val (.int (c1 &&& (255 : Int32))), .unset, .unset, .unset, .unset] [(.ref b115)])) (fun _ k => st123.trans k) ?_
                refine OwnFin.adv (B := T123.setTop (mkF m 204 #[.val (.int sel), .val (.int c0), .val (.int c1), .val (.int fg), .val (.ref b1), .val (.ref sa), .val (.int x6), .val (.int x7), .val (.int x8), .val (.int x9), .val (.int ((((fg.toUInt32 >>> ((4 : Int32) &&& 31).toUInt32).toInt32) &&& (255 : Int32)) % (3 : Int32))), .val (.int (c0 &&& (255 : Int32))), .val (.int (c1 &&& (255 : Int32))), .val (.ref b115), .unset, .unset, .unset] [])) (fun _ k => XS.astore X123.here hx rfl (hb hby at_202) rfl rfl (l' := #[.val (.int sel), .val (.int c0), .val (.int c1), .val (.int fg), .val (.ref b1), .val (.ref sa), .val (.int x6), .val (.int x7), .val (.int x8), .val (.int x9), .val (.int ((((fg.toUInt32 >>> ((4 : Int32) &&& 31).toUInt32).toInt32) &&& (255 : Int32)) % (3 : Int32))), .val (.int (c0 &&& (255 : Int32))), .val (.int (c1 &&& (255 : Int32))), .val (.ref b115), .unset, .unset, .unset]) rfl k) ?_
                have Old131 : Old Z n0 T123.heap := (Old128.keep K123 (allS (by omega) all0))
                exact J204 b115 T123.heap s.vm 0 T123 _ (X123.mono (by decide) (by decide)) rfl N123 (State.WarmedH.since (State.WarmedH.refl s) 0) (Nat.zero_le _) hZ hown Old131 
          by_cases hc109 : (fg &&& (8 : Int32)) = (0 : Int32)
          ·
            refine OwnFin.adv (B := TJ.setTop (mkF m 116 #[.val (.int sel), .val (.int c0), .val (.int c1), .val (.int fg), .val (.ref b1), .val (.ref sa), .val (.int x6), .val (.int x7), .val (.int x8), .unset, .unset, .unset, .unset, .unset, .unset, .unset, .unset] [])) (fun _ k => XS.ifYes XJ.here hx rfl (pc0 := 109) (pc' := 116) rfl (hb hby at_109) rfl ((if0 _ _).trans (teq hc109).1) (by decide) (by decide) k) ?_
            refine OwnFin.adv (B := TJ.setTop (mkF m 117 #[.val (.int sel), .val (.int c0), .val (.int c1), .val (.int fg), .val (.ref b1), .val (.ref sa), .val (.int x6), .val (.int x7), .val (.int x8), .unset, .unset, .unset, .unset, .unset, .unset, .unset, .unset] [(.int (0 : Int32))])) (fun _ k => XS.iconst XJ.here hx rfl (hb hby at_116) k) ?_
            exact J117 (0 : Int32) TJ _ XJ eJ NJ (by decide)
          ·
            refine OwnFin.adv (B := TJ.setTop (mkF m 112 #[.val (.int sel), .val (.int c0), .val (.int c1), .val (.int fg), .val (.ref b1), .val (.ref sa), .val (.int x6), .val (.int x7), .val (.int x8), .unset, .unset, .unset, .unset, .unset, .unset, .unset, .unset] [])) (fun _ k => XS.ifNo XJ.here hx rfl (hb hby at_109) rfl ((if0 _ _).trans (feq hc109).1) k) ?_
            refine OwnFin.adv (B := TJ.setTop (mkF m 113 #[.val (.int sel), .val (.int c0), .val (.int c1), .val (.int fg), .val (.ref b1), .val (.ref sa), .val (.int x6), .val (.int x7), .val (.int x8), .unset, .unset, .unset, .unset, .unset, .unset, .unset, .unset] [(.int (1 : Int32))])) (fun _ k => XS.iconst XJ.here hx rfl (hb hby at_112) k) ?_
            refine OwnFin.adv (B := TJ.setTop (mkF m 117 #[.val (.int sel), .val (.int c0), .val (.int c1), .val (.int fg), .val (.ref b1), .val (.ref sa), .val (.int x6), .val (.int x7), .val (.int x8), .unset, .unset, .unset, .unset, .unset, .unset, .unset, .unset] [(.int (1 : Int32))])) (fun _ k => XS.goto XJ.here hx rfl (pc0 := 113) (pc' := 117) rfl (hb hby at_113) (by decide) (by decide) k) ?_
            exact J117 (1 : Int32) TJ _ XJ eJ NJ (by decide)
        by_cases hc95 : (fg &&& (4 : Int32)) = (0 : Int32)
        ·
          refine OwnFin.adv (B := TJ.setTop (mkF m 102 #[.val (.int sel), .val (.int c0), .val (.int c1), .val (.int fg), .val (.ref b1), .val (.ref sa), .val (.int x6), .val (.int x7), .unset, .unset, .unset, .unset, .unset, .unset, .unset, .unset, .unset] [])) (fun _ k => XS.ifYes XJ.here hx rfl (pc0 := 95) (pc' := 102) rfl (hb hby at_95) rfl ((if0 _ _).trans (teq hc95).1) (by decide) (by decide) k) ?_
          refine OwnFin.adv (B := TJ.setTop (mkF m 103 #[.val (.int sel), .val (.int c0), .val (.int c1), .val (.int fg), .val (.ref b1), .val (.ref sa), .val (.int x6), .val (.int x7), .unset, .unset, .unset, .unset, .unset, .unset, .unset, .unset, .unset] [(.int (0 : Int32))])) (fun _ k => XS.iconst XJ.here hx rfl (hb hby at_102) k) ?_
          exact J103 (0 : Int32) TJ _ XJ eJ NJ (by decide)
        ·
          refine OwnFin.adv (B := TJ.setTop (mkF m 98 #[.val (.int sel), .val (.int c0), .val (.int c1), .val (.int fg), .val (.ref b1), .val (.ref sa), .val (.int x6), .val (.int x7), .unset, .unset, .unset, .unset, .unset, .unset, .unset, .unset, .unset] [])) (fun _ k => XS.ifNo XJ.here hx rfl (hb hby at_95) rfl ((if0 _ _).trans (feq hc95).1) k) ?_
          refine OwnFin.adv (B := TJ.setTop (mkF m 99 #[.val (.int sel), .val (.int c0), .val (.int c1), .val (.int fg), .val (.ref b1), .val (.ref sa), .val (.int x6), .val (.int x7), .unset, .unset, .unset, .unset, .unset, .unset, .unset, .unset, .unset] [(.int (1 : Int32))])) (fun _ k => XS.iconst XJ.here hx rfl (hb hby at_98) k) ?_
          refine OwnFin.adv (B := TJ.setTop (mkF m 103 #[.val (.int sel), .val (.int c0), .val (.int c1), .val (.int fg), .val (.ref b1), .val (.ref sa), .val (.int x6), .val (.int x7), .unset, .unset, .unset, .unset, .unset, .unset, .unset, .unset, .unset] [(.int (1 : Int32))])) (fun _ k => XS.goto XJ.here hx rfl (pc0 := 99) (pc' := 103) rfl (hb hby at_99) (by decide) (by decide) k) ?_
          exact J103 (1 : Int32) TJ _ XJ eJ NJ (by decide)
      by_cases hc82 : (fg &&& (2 : Int32)) = (0 : Int32)
      ·
        refine OwnFin.adv (B := TJ.setTop (mkF m 89 #[.val (.int sel), .val (.int c0), .val (.int c1), .val (.int fg), .val (.ref b1), .val (.ref sa), .val (.int x6), .unset, .unset, .unset, .unset, .unset, .unset, .unset, .unset, .unset, .unset] [])) (fun _ k => XS.ifYes XJ.here hx rfl (pc0 := 82) (pc' := 89) rfl (hb hby at_82) rfl ((if0 _ _).trans (teq hc82).1) (by decide) (by decide) k) ?_
        refine OwnFin.adv (B := TJ.setTop (mkF m 90 #[.val (.int sel), .val (.int c0), .val (.int c1), .val (.int fg), .val (.ref b1), .val (.ref sa), .val (.int x6), .unset, .unset, .unset, .unset, .unset, .unset, .unset, .unset, .unset, .unset] [(.int (0 : Int32))])) (fun _ k => XS.iconst XJ.here hx rfl (hb hby at_89) k) ?_
        exact J90 (0 : Int32) TJ _ XJ eJ NJ (by decide)
      ·
        refine OwnFin.adv (B := TJ.setTop (mkF m 85 #[.val (.int sel), .val (.int c0), .val (.int c1), .val (.int fg), .val (.ref b1), .val (.ref sa), .val (.int x6), .unset, .unset, .unset, .unset, .unset, .unset, .unset, .unset, .unset, .unset] [])) (fun _ k => XS.ifNo XJ.here hx rfl (hb hby at_82) rfl ((if0 _ _).trans (feq hc82).1) k) ?_
        refine OwnFin.adv (B := TJ.setTop (mkF m 86 #[.val (.int sel), .val (.int c0), .val (.int c1), .val (.int fg), .val (.ref b1), .val (.ref sa), .val (.int x6), .unset, .unset, .unset, .unset, .unset, .unset, .unset, .unset, .unset, .unset] [(.int (1 : Int32))])) (fun _ k => XS.iconst XJ.here hx rfl (hb hby at_85) k) ?_
        refine OwnFin.adv (B := TJ.setTop (mkF m 90 #[.val (.int sel), .val (.int c0), .val (.int c1), .val (.int fg), .val (.ref b1), .val (.ref sa), .val (.int x6), .unset, .unset, .unset, .unset, .unset, .unset, .unset, .unset, .unset, .unset] [(.int (1 : Int32))])) (fun _ k => XS.goto XJ.here hx rfl (pc0 := 86) (pc' := 90) rfl (hb hby at_86) (by decide) (by decide) k) ?_
        exact J90 (1 : Int32) TJ _ XJ eJ NJ (by decide)
    by_cases hc69 : (fg &&& (1 : Int32)) = (0 : Int32)
    ·
      refine OwnFin.adv (B := TJ.setTop (mkF m 76 #[.val (.int sel), .val (.int c0), .val (.int c1), .val (.int fg), .val (.ref b1), .val (.ref sa), .unset, .unset, .unset, .unset, .unset, .unset, .unset, .unset, .unset, .unset, .unset] [])) (fun _ k => XS.ifYes XJ.here hx rfl (pc0 := 69) (pc' := 76) rfl (hb hby at_69) rfl ((if0 _ _).trans (teq hc69).1) (by decide) (by decide) k) ?_
      refine OwnFin.adv (B := TJ.setTop (mkF m 77 #[.val (.int sel), .val (.int c0), .val (.int c1), .val (.int fg), .val (.ref b1), .val (.ref sa), .unset, .unset, .unset, .unset, .unset, .unset, .unset, .unset, .unset, .unset, .unset] [(.int (0 : Int32))])) (fun _ k => XS.iconst XJ.here hx rfl (hb hby at_76) k) ?_
      exact J77 (0 : Int32) TJ _ XJ eJ NJ (by decide)
    ·
      refine OwnFin.adv (B := TJ.setTop (mkF m 72 #[.val (.int sel), .val (.int c0), .val (.int c1), .val (.int fg), .val (.ref b1), .val (.ref sa), .unset, .unset, .unset, .unset, .unset, .unset, .unset, .unset, .unset, .unset, .unset] [])) (fun _ k => XS.ifNo XJ.here hx rfl (hb hby at_69) rfl ((if0 _ _).trans (feq hc69).1) k) ?_
      refine OwnFin.adv (B := TJ.setTop (mkF m 73 #[.val (.int sel), .val (.int c0), .val (.int c1), .val (.int fg), .val (.ref b1), .val (.ref sa), .unset, .unset, .unset, .unset, .unset, .unset, .unset, .unset, .unset, .unset, .unset] [(.int (1 : Int32))])) (fun _ k => XS.iconst XJ.here hx rfl (hb hby at_72) k) ?_
      refine OwnFin.adv (B := TJ.setTop (mkF m 77 #[.val (.int sel), .val (.int c0), .val (.int c1), .val (.int fg), .val (.ref b1), .val (.ref sa), .unset, .unset, .unset, .unset, .unset, .unset, .unset, .unset, .unset, .unset, .unset] [(.int (1 : Int32))])) (fun _ k => XS.goto XJ.here hx rfl (pc0 := 73) (pc' := 77) rfl (hb hby at_73) (by decide) (by decide) k) ?_
      exact J77 (1 : Int32) TJ _ XJ eJ NJ (by decide)
  rcases own_m7 sel with hk | hk | hk | hk | hk | hk | hk | hk
  ·
    rw [show ((sel &&& (7 : Int32)) : Int32) = (0 : Int32) from hk]
    obtain ⟨cl132, Ar132, ck132, S132, M132, H132, G132⟩ := id V33
    have hin132 : ¬ ((0 : Int32) < 0 ∨ cl132.slots.size ≤ ((0 : Int32)).toNatClampNeg) := inb_of S132 ⟨by decide, by decide⟩
    refine OwnFin.adv (B := T33.setTop (mkF m 64 #[.val (.int sel), .val (.int c0), .val (.int c1), .val (.int fg), .val (.ref b1), .unset, .unset, .unset, .unset, .unset, .unset, .unset, .unset, .unset, .unset, .unset, .unset] [(.ref q0)])) (fun _ k => X33.aaload hx (j := (0 : Int32)) (v := (.ref q0)) (by rw [e33]; exact Ar132.1) (State.isArrayOf_alike hZ.alike Ar132.2.1) rfl Ar132.2.2 hin132 (Has.at H132 hin132 rfl) (g := (mkF m 63 #[.val (.int sel), .val (.int c0), .val (.int c1), .val (.int fg), .val (.ref b1), .unset, .unset, .unset, .unset, .unset, .unset, .unset, .unset, .unset, .unset, .unset, .unset] [(.int (0 : Int32)), (.ref b1)])) rfl rfl (hb hby at_63) _ k) ?_
    exact J64 q0 T33 _ X33 e33 N33
  ·
    rw [show ((sel &&& (7 : Int32)) : Int32) = (1 : Int32) from hk]
    obtain ⟨cl133, Ar133, ck133, S133, M133, H133, G133⟩ := id V33
    have hin133 : ¬ ((1 : Int32) < 0 ∨ cl133.slots.size ≤ ((1 : Int32)).toNatClampNeg) := inb_of S133 ⟨by decide, by decide⟩
    refine OwnFin.adv (B := T33.setTop (mkF m 64 #[.val (.int sel), .val (.int c0), .val (.int c1), .val (.int fg), .val (.ref b1), .unset, .unset, .unset, .unset, .unset, .unset, .unset, .unset, .unset, .unset, .unset, .unset] [(.ref q1)])) (fun _ k => X33.aaload hx (j := (1 : Int32)) (v := (.ref q1)) (by rw [e33]; exact Ar133.1) (State.isArrayOf_alike hZ.alike Ar133.2.1) rfl Ar133.2.2 hin133 (Has.at H133 hin133 rfl) (g := (mkF m 63 #[.val (.int sel), .val (.int c0), .val (.int c1), .val (.int fg), .val (.ref b1), .unset, .unset, .unset, .unset, .unset, .unset, .unset, .unset, .unset, .unset, .unset, .unset] [(.int (1 : Int32)), (.ref b1)])) rfl rfl (hb hby at_63) _ k) ?_
    exact J64 q1 T33 _ X33 e33 N33
  ·
    rw [show ((sel &&& (7 : Int32)) : Int32) = (2 : Int32) from hk]
    obtain ⟨cl134, Ar134, ck134, S134, M134, H134, G134⟩ := id V33
    have hin134 : ¬ ((2 : Int32) < 0 ∨ cl134.slots.size ≤ ((2 : Int32)).toNatClampNeg) := inb_of S134 ⟨by decide, by decide⟩
    refine OwnFin.adv (B := T33.setTop (mkF m 64 #[.val (.int sel), .val (.int c0), .val (.int c1), .val (.int fg), .val (.ref b1), .unset, .unset, .unset, .unset, .unset, .unset, .unset, .unset, .unset, .unset, .unset, .unset] [(.ref q2)])) (fun _ k => X33.aaload hx (j := (2 : Int32)) (v := (.ref q2)) (by rw [e33]; exact Ar134.1) (State.isArrayOf_alike hZ.alike Ar134.2.1) rfl Ar134.2.2 hin134 (Has.at H134 hin134 rfl) (g := (mkF m 63 #[.val (.int sel), .val (.int c0), .val (.int c1), .val (.int fg), .val (.ref b1), .unset, .unset, .unset, .unset, .unset, .unset, .unset, .unset, .unset, .unset, .unset, .unset] [(.int (2 : Int32)), (.ref b1)])) rfl rfl (hb hby at_63) _ k) ?_
    exact J64 q2 T33 _ X33 e33 N33
  ·
    rw [show ((sel &&& (7 : Int32)) : Int32) = (3 : Int32) from hk]
    obtain ⟨cl135, Ar135, ck135, S135, M135, H135, G135⟩ := id V33
    have hin135 : ¬ ((3 : Int32) < 0 ∨ cl135.slots.size ≤ ((3 : Int32)).toNatClampNeg) := inb_of S135 ⟨by decide, by decide⟩
    refine OwnFin.adv (B := T33.setTop (mkF m 64 #[.val (.int sel), .val (.int c0), .val (.int c1), .val (.int fg), .val (.ref b1), .unset, .unset, .unset, .unset, .unset, .unset, .unset, .unset, .unset, .unset, .unset, .unset] [(.ref q3)])) (fun _ k => X33.aaload hx (j := (3 : Int32)) (v := (.ref q3)) (by rw [e33]; exact Ar135.1) (State.isArrayOf_alike hZ.alike Ar135.2.1) rfl Ar135.2.2 hin135 (Has.at H135 hin135 rfl) (g := (mkF m 63 #[.val (.int sel), .val (.int c0), .val (.int c1), .val (.int fg), .val (.ref b1), .unset, .unset, .unset, .unset, .unset, .unset, .unset, .unset, .unset, .unset, .unset, .unset] [(.int (3 : Int32)), (.ref b1)])) rfl rfl (hb hby at_63) _ k) ?_
    exact J64 q3 T33 _ X33 e33 N33
  ·
    rw [show ((sel &&& (7 : Int32)) : Int32) = (4 : Int32) from hk]
    obtain ⟨cl136, Ar136, ck136, S136, M136, H136, G136⟩ := id V33
    have hin136 : ¬ ((4 : Int32) < 0 ∨ cl136.slots.size ≤ ((4 : Int32)).toNatClampNeg) := inb_of S136 ⟨by decide, by decide⟩
    refine OwnFin.adv (B := T33.setTop (mkF m 64 #[.val (.int sel), .val (.int c0), .val (.int c1), .val (.int fg), .val (.ref b1), .unset, .unset, .unset, .unset, .unset, .unset, .unset, .unset, .unset, .unset, .unset, .unset] [(.ref q4)])) (fun _ k => X33.aaload hx (j := (4 : Int32)) (v := (.ref q4)) (by rw [e33]; exact Ar136.1) (State.isArrayOf_alike hZ.alike Ar136.2.1) rfl Ar136.2.2 hin136 (Has.at H136 hin136 rfl) (g := (mkF m 63 #[.val (.int sel), .val (.int c0), .val (.int c1), .val (.int fg), .val (.ref b1), .unset, .unset, .unset, .unset, .unset, .unset, .unset, .unset, .unset, .unset, .unset, .unset] [(.int (4 : Int32)), (.ref b1)])) rfl rfl (hb hby at_63) _ k) ?_
    exact J64 q4 T33 _ X33 e33 N33
  ·
    rw [show ((sel &&& (7 : Int32)) : Int32) = (5 : Int32) from hk]
    obtain ⟨cl137, Ar137, ck137, S137, M137, H137, G137⟩ := id V33
    have hin137 : ¬ ((5 : Int32) < 0 ∨ cl137.slots.size ≤ ((5 : Int32)).toNatClampNeg) := inb_of S137 ⟨by decide, by decide⟩
    refine OwnFin.adv (B := T33.setTop (mkF m 64 #[.val (.int sel), .val (.int c0), .val (.int c1), .val (.int fg), .val (.ref b1), .unset, .unset, .unset, .unset, .unset, .unset, .unset, .unset, .unset, .unset, .unset, .unset] [(.ref q5)])) (fun _ k => X33.aaload hx (j := (5 : Int32)) (v := (.ref q5)) (by rw [e33]; exact Ar137.1) (State.isArrayOf_alike hZ.alike Ar137.2.1) rfl Ar137.2.2 hin137 (Has.at H137 hin137 rfl) (g := (mkF m 63 #[.val (.int sel), .val (.int c0), .val (.int c1), .val (.int fg), .val (.ref b1), .unset, .unset, .unset, .unset, .unset, .unset, .unset, .unset, .unset, .unset, .unset, .unset] [(.int (5 : Int32)), (.ref b1)])) rfl rfl (hb hby at_63) _ k) ?_
    exact J64 q5 T33 _ X33 e33 N33
  ·
    rw [show ((sel &&& (7 : Int32)) : Int32) = (6 : Int32) from hk]
    obtain ⟨cl138, Ar138, ck138, S138, M138, H138, G138⟩ := id V33
    have hin138 : ¬ ((6 : Int32) < 0 ∨ cl138.slots.size ≤ ((6 : Int32)).toNatClampNeg) := inb_of S138 ⟨by decide, by decide⟩
    refine OwnFin.adv (B := T33.setTop (mkF m 64 #[.val (.int sel), .val (.int c0), .val (.int c1), .val (.int fg), .val (.ref b1), .unset, .unset, .unset, .unset, .unset, .unset, .unset, .unset, .unset, .unset, .unset, .unset] [(.ref q6)])) (fun _ k => X33.aaload hx (j := (6 : Int32)) (v := (.ref q6)) (by rw [e33]; exact Ar138.1) (State.isArrayOf_alike hZ.alike Ar138.2.1) rfl Ar138.2.2 hin138 (Has.at H138 hin138 rfl) (g := (mkF m 63 #[.val (.int sel), .val (.int c0), .val (.int c1), .val (.int fg), .val (.ref b1), .unset, .unset, .unset, .unset, .unset, .unset, .unset, .unset, .unset, .unset, .unset, .unset] [(.int (6 : Int32)), (.ref b1)])) rfl rfl (hb hby at_63) _ k) ?_
    exact J64 q6 T33 _ X33 e33 N33
  ·
    rw [show ((sel &&& (7 : Int32)) : Int32) = (7 : Int32) from hk]
    obtain ⟨cl139, Ar139, ck139, S139, M139, H139, G139⟩ := id V33
    have hin139 : ¬ ((7 : Int32) < 0 ∨ cl139.slots.size ≤ ((7 : Int32)).toNatClampNeg) := inb_of S139 ⟨by decide, by decide⟩
    refine OwnFin.adv (B := T33.setTop (mkF m 64 #[.val (.int sel), .val (.int c0), .val (.int c1), .val (.int fg), .val (.ref b1), .unset, .unset, .unset, .unset, .unset, .unset, .unset, .unset, .unset, .unset, .unset, .unset] [(.ref q7)])) (fun _ k => X33.aaload hx (j := (7 : Int32)) (v := (.ref q7)) (by rw [e33]; exact Ar139.1) (State.isArrayOf_alike hZ.alike Ar139.2.1) rfl Ar139.2.2 hin139 (Has.at H139 hin139 rfl) (g := (mkF m 63 #[.val (.int sel), .val (.int c0), .val (.int c1), .val (.int fg), .val (.ref b1), .unset, .unset, .unset, .unset, .unset, .unset, .unset, .unset, .unset, .unset, .unset, .unset] [(.int (7 : Int32)), (.ref b1)])) rfl rfl (hb hby at_63) _ k) ?_
    exact J64 q7 T33 _ X33 e33 N33
theorem own_sub : ∀ p ∈ own_EL, p ∈ consts_1 := by decide
set_option maxRecDepth 65536 in
set_option maxHeartbeats 40000000 in
theorem own_comes {Post : Tables → Env → Array Value → State → Outcome → State → Prop} (hpost : ∀ tb e args s v u, (limb_1_1.after args s (.returned v) u = true ∧ limb_1_2.after args s (.returned v) u = true ∧ True) → ReturnedEndW s (.returned v) u (Jvm.fieldLocs frame_1_writes args s ++ Jvm.arrayLocs frame_1_arrays args s ++ Jvm.staticLocs frame_1_statics s) 40 2240 → Post tb e args s (.returned v) u) :
    ArmFor flags0 classFile x code maxLocals ret World_1 tables_1 room_1 Calls_1 rest_1 Pre_1 Post := by
  intro l hfl _ _ p e ha hc hk s m args below hf hA hF happ hP
  obtain ⟨hcalls, hrest, hpre⟩ := hP
  obtain ⟨-, -, -, hnamed, -, -, -, hat⟩ := (Spec.applies_iff hf).mp happ
  obtain ⟨hg, hn⟩ := and_e (Cond.before_iff.mp (show (Jvm.Cond.and given_1 narrow_1).before args s = true from hpre))
  obtain ⟨u1, u2⟩ := and_e hg
  obtain ⟨u3, u4⟩ := and_e u2
  obtain ⟨u5, u6⟩ := and_e u4
  obtain ⟨u7, u8⟩ := and_e u6
  obtain ⟨u9, u10⟩ := and_e hn
  obtain ⟨u11, u12⟩ := and_e u10
  obtain ⟨u13, u14⟩ := and_e u12
  obtain ⟨u15, u16⟩ := and_e u14
  obtain ⟨u17, u18⟩ := and_e u16
  obtain ⟨u19, u20⟩ := and_e u18
  obtain ⟨u21, u22⟩ := and_e u20
  obtain ⟨w0, w1, w2, w3, rfl⟩ : ∃ w0 w1 w2 w3 : Value, args = #[w0, w1, w2, w3] := by
    have hs : args.size = 4 := by simpa [Cond.value, given_1] using u1
    obtain ⟨L⟩ := args
    match L, hs with
    | [w0, w1, w2, w3], _ => exact ⟨w0, w1, w2, w3, rfl⟩
  have hw := fun d (hd : d ∈ tables_1) => atoms_spec (ws := Jvm.Cond.code x code maxLocals ret :: tables_1) hat d (List.mem_cons_of_mem _ hd)
  have hfit : Fit s := fun {y c} hc i hi => by
    obtain ⟨ha, rfl⟩ := Array.getElem?_eq_some_iff.mp hc
    have q := List.all_eq_true.mp ((Array.all_eq_true_iff_forall_mem.mp hF) _ (Array.getElem_mem ha)) i (List.mem_range.mpr hi)
    simpa [Array.getElem?_eq_getElem hi] using q
  obtain ⟨hsets, hown0⟩ := atoms_of _ (rest_1_c_eq ▸ (show rest_1_c.before _ s = true from hrest))
  have hr0 := Cond.before_iff.mp hown0
  obtain ⟨i0, ei0⟩ := is_v u3
  obtain rfl : w0 = (.int i0) := Option.some.inj ei0
  obtain ⟨i1, ei1⟩ := is_v u5
  obtain rfl : w1 = (.int i1) := Option.some.inj ei1
  obtain ⟨i2, ei2⟩ := is_v u7
  obtain rfl : w2 = (.int i2) := Option.some.inj ei2
  obtain ⟨i3, ei3⟩ := is_v u8
  obtain rfl : w3 = (.int i3) := Option.some.inj ei3
  obtain ⟨zc, ezc⟩ := is_v (Cond.before_iff.mp (hsets _ (List.mem_of_getElem? (i := 1) rfl)))
  have SCS := Sta.start ezc (Or.inl (hsets _ (List.mem_of_getElem? (i := 0) rfl)))
  have hzc : ¬ zc = 0 := fun q => by
    have h := not_v (Cond.before_iff.mp (hsets _ (List.mem_of_getElem? (i := 2) rfl)))
    rw [Cond.eq_ints ezc (Term.int_eval _), q] at h
    simp at h
  have SH := Sta.start (own_eqI (Cond.before_iff.mp (hsets _ (List.mem_of_getElem? (i := 12) rfl)))) (Or.inr ⟨(hw _ (List.mem_of_getElem? (i := 99) rfl)), (hsets _ (List.mem_of_getElem? (i := 9) rfl))⟩)
  obtain ⟨ca, cl, SC, BX⟩ := own_boxes (Z := s) (args := #[.int i0, .int i1, .int i2, .int i3]) (fun d hd => by simp only [List.mem_cons, List.not_mem_nil, or_false] at hd; rcases hd with rfl | rfl | rfl <;> first | exact (hsets _ (List.mem_of_getElem? (i := 13) rfl)) | exact (hsets _ (List.mem_of_getElem? (i := 15) rfl)) | exact (hsets _ (List.mem_of_getElem? (i := 16) rfl))) (hw _ (List.mem_of_getElem? (i := 99) rfl)) (hsets _ (List.mem_of_getElem? (i := 11) rfl))
  obtain ⟨q0, ev_q0⟩ := exa_v u9
  have E_q0 := Exa.start ev_q0 u9
  have S_q0 := Sta.start ev_q0 (Or.inr ⟨(hw _ (List.mem_of_getElem? (i := 3) rfl)), (hw _ (List.mem_of_getElem? (i := 4) rfl))⟩)
  obtain ⟨q1, ev_q1⟩ := exa_v u11
  have E_q1 := Exa.start ev_q1 u11
  have S_q1 := Sta.start ev_q1 (Or.inr ⟨(hw _ (List.mem_of_getElem? (i := 3) rfl)), (hw _ (List.mem_of_getElem? (i := 7) rfl))⟩)
  obtain ⟨q2, ev_q2⟩ := exa_v u13
  have E_q2 := Exa.start ev_q2 u13
  have S_q2 := Sta.start ev_q2 (Or.inr ⟨(hw _ (List.mem_of_getElem? (i := 3) rfl)), (hw _ (List.mem_of_getElem? (i := 9) rfl))⟩)
  obtain ⟨q3, ev_q3⟩ := exa_v u15
  have E_q3 := Exa.start ev_q3 u15
  have S_q3 := Sta.start ev_q3 (Or.inr ⟨(hw _ (List.mem_of_getElem? (i := 3) rfl)), (hw _ (List.mem_of_getElem? (i := 11) rfl))⟩)
  obtain ⟨q4, ev_q4⟩ := exa_v u17
  have E_q4 := Exa.start ev_q4 u17
  have S_q4 := Sta.start ev_q4 (Or.inr ⟨(hw _ (List.mem_of_getElem? (i := 3) rfl)), (hw _ (List.mem_of_getElem? (i := 13) rfl))⟩)
  obtain ⟨q5, ev_q5⟩ := exa_v u19
  have E_q5 := Exa.start ev_q5 u19
  have S_q5 := Sta.start ev_q5 (Or.inr ⟨(hw _ (List.mem_of_getElem? (i := 3) rfl)), (hw _ (List.mem_of_getElem? (i := 15) rfl))⟩)
  obtain ⟨q6, ev_q6⟩ := exa_v u21
  have E_q6 := Exa.start ev_q6 u21
  have S_q6 := Sta.start ev_q6 (Or.inr ⟨(hw _ (List.mem_of_getElem? (i := 3) rfl)), (hw _ (List.mem_of_getElem? (i := 17) rfl))⟩)
  obtain ⟨q7, ev_q7⟩ := exa_v u22
  have E_q7 := Exa.start ev_q7 u22
  have S_q7 := Sta.start ev_q7 (Or.inr ⟨(hw _ (List.mem_of_getElem? (i := 3) rfl)), (hw _ (List.mem_of_getElem? (i := 19) rfl))⟩)
  have CH0 : CHv s own_EL s.vm s.heap := CHv.start (own_EW hw) (fun p hp => hcalls.1 p (own_sub p hp)) (hsets _ (List.mem_of_getElem? (i := 2) rfl)) (hw _ (List.mem_of_getElem? (i := 35) rfl)) (hw _ (List.mem_of_getElem? (i := 21) rfl))
  obtain ⟨n, o, h1, h2, h3, _, L, rfl, ⟨rfl, N⟩, hq⟩ := own_rm0 l s _ hw tables_1 i0 i1 i2 i3 zc ca cl q0 q1 q2 q3 q4 q5 q6 q7 s.heap s.heap.size (Nat.le_refl _) (Old.start s) SCS hzc SH SC BX S_q0 S_q1 S_q2 S_q3 S_q4 S_q5 S_q6 S_q7 E_q0 E_q1 E_q2 E_q3 E_q4 E_q5 E_q6 E_q7 p e ha hc hk s m _ below hf ((Spec.applies_iff_loose hf).mp happ).1 ⟨rfl, State.Warmed39.refl s, rfl, CH0⟩ trivial
  refine ⟨n, _, h1, h2, h3, hpost _ _ _ _ _ _ ⟨Cond.after_iff.mpr rfl, Cond.after_iff.mpr (eq_i res_at (Term.int_eval (1)) rfl), trivial⟩ ⟨hq.1, hq.2.1, hq.2.2.1, (hq.2.2.2.sift fun y hy => Or.inr (N y hy)).mono (by decide) (by decide)⟩⟩
theorem main_1_1 : Claimed_1_1 := own_comes fun _ _ _ _ _ _ h hF => ⟨h.1, hF⟩
theorem main_1_2 : Claimed_1_2 := own_comes fun _ _ _ _ _ _ h hF => ⟨h.2.1, hF⟩
end Jvm.Pilot.@@N@@
namespace Jvm.Pilot.@@N@@
open Jvm Jvm.ClassFile Sem Op Lib Jvm.Free Jvm.Stand Jvm.Pilot.@@N@@.Jvm.D
/-! MADE BY PROGRAM (witnessworld.py) out of the Statement's table words and the real class files: 30 classes; the members and pool entries that the words name. The judged class is class 1, her method 1. -/
namespace start1
open Jvm.ClassFile
def u (s : String) : CpInfo := .utf8 (stringToUtf16 s)
/-- a pool by its gaps: so many unusable entries, then the entry; so many at the end -/
def gap : Nat → List CpInfo → List CpInfo
  | 0, r => r
  | n + 1, r => .unusable :: gap n r
def poolList (es : List (Nat × CpInfo)) (last : Nat) : List CpInfo := es.foldr (fun e r => gap e.1 (e.2 :: r)) (gap last [])
def pool (es : List (Nat × CpInfo)) (last : Nat) : Array CpInfo := ⟨poolList es last⟩
def fileOf (pool : Array CpInfo) (this : Nat) (attrs : Array Attribute := #[]) (ms : Array MethodInfo := #[]) (fl : Nat := 33) (sup : Nat := 0) (ifs : Array Nat := #[]) (fds : Array FieldInfo := #[]) : ClassFile where
  minorVersion := 0
  majorVersion := 65
  constantPool := pool
  accessFlags := fl
  thisClass := this
  superClass := sup
  interfaces := ifs
  fields := fds
  methods := ms
  attributes := attrs
def plain (name : String) (sup : Option ClassId) : Class where
  name := name
  kind := .ordinary
  loader := none
  accessFlags := 33
  super := sup
  interfaces := #[]
  cf := none
  fields := #[]
  methods := #[]
  instanceTypes := #[]
  staticTypes := #[]
  resolved := #[]
  callSites := []
  init := .initialized
  statics := none
  mirror := none

def pool0 : Array CpInfo := pool [(5, u "<init>"), (0, u "()V"), (1, .class_ 10), (1, u "java/lang/Object")] 113

def k0c0 : Code := { maxStack := 0, maxLocals := 1, code := object_method_1_code, exceptionTable := #[], attributes := #[] }
def k0m0 : Method := { name := "<init>", desc := "()V", sig := { parameters := [], returnType := none }, accessFlags := 1, code := some k0c0 }
/-- java/lang/Object -/
def k0 : Class := { plain "java/lang/Object" none with
  accessFlags := 33
  interfaces := #[]
  cf := some (fileOf pool0 8 #[] #[{ accessFlags := 1, nameIndex := 5, descriptorIndex := 6, attributes := #[] }] 33 0 #[] #[])
  fields := #[]
  methods := #[k0m0]
  instanceTypes := #[]
  staticTypes := #[]
  resolved := Array.replicate 124 none
  statics := none }

def pool1 : Array CpInfo := pool [(2, .class_ 4), (1, u "java/lang/Object"), (0, u "<init>"), (0, u "()V"), (0, .class_ 8), (0, u "com/example/klotho/klotho/InstanceStatus"), (0, .fieldref 7 10), (0, .nameAndType 11 12), (0, u "RUNNING"), (0, u "Lcom/example/klotho/klotho/InstanceStatus;"), (0, .fieldref 7 14), (0, .nameAndType 15 12), (0, u "COMPLETED"), (0, .fieldref 7 17), (0, .nameAndType 18 12), (0, u "FAILED"), (0, .fieldref 7 20), (0, .nameAndType 21 12), (0, u "COMPENSATING"), (0, .fieldref 7 23), (0, .nameAndType 24 12), (0, u "CANCELLED"), (0, .fieldref 7 26), (0, .nameAndType 27 12), (0, u "WAITING_FOR_EVENT"), (0, .fieldref 7 29), (0, .nameAndType 30 12), (0, u "WAITING_FOR_TIMER"), (0, .fieldref 7 32), (0, .nameAndType 33 12), (0, u "WAITING_TO_COMPENSATE"), (0, .class_ 35), (0, u "java/lang/String"), (0, .methodref 34 37), (0, .nameAndType 5 38), (0, u "([C)V"), (0, .methodref 34 40), (0, .nameAndType 41 42), (0, u "valueOf"), (0, u "(C)Ljava/lang/String;"), (0, .methodref 44 45), (0, .class_ 46), (0, .nameAndType 41 47), (0, u "java/lang/Integer"), (0, u "(I)Ljava/lang/Integer;"), (0, .class_ 49), (0, u "com/example/klotho/klotho/RecordedFailure"), (0, .methodref 48 51), (0, .nameAndType 5 52), (0, u "(Ljava/lang/String;Ljava/lang/String;)V"), (0, .class_ 54), (0, u "com/example/klotho/klotho/WorkflowOutcome"), (0, .methodref 53 56), (0, .nameAndType 5 57), (0, u "(Ljava/lang/String;Lcom/example/klotho/klotho/InstanceStatus;Ljava/lang/Object;Lcom/example/klotho/klotho/RecordedFailure;Ljava/lang/String;)V"), (0, .methodref 53 59), (0, .nameAndType 5 60), (0, u "(Ljava/lang/String;Lcom/example/klotho/klotho/InstanceStatus;Ljava/lang/Object;Lcom/example/klotho/klotho/RecordedFailure;)V"), (0, .methodref 53 62), (0, .nameAndType 63 64), (0, u "isRefused"), (0, u "()Z"), (0, .methodref 53 66), (0, .nameAndType 67 68), (0, u "refusal"), (0, u "()Ljava/lang/String;"), (0, .methodref 53 70), (0, .nameAndType 71 64), (0, u "isRunningElsewhere"), (0, .class_ 73), (0, u "com/example/klotho/klotho/WorkflowOutcomeIsRefusedPinLaw"), (2, u "law"), (0, u "(IIII)Z")] 5

def k1m0 : Method := { name := "<init>", desc := "()V", sig := { parameters := [], returnType := none }, accessFlags := 1, code := none }
def k1c1 : Code := { maxStack := 7, maxLocals := 17, code := code, exceptionTable := #[], attributes := #[] }
def k1m1 : Method := { name := "law", desc := "(IIII)Z", sig := { parameters := [.int, .int, .int, .int], returnType := some .boolean }, accessFlags := 9, code := some k1c1 }
/-- com/example/klotho/klotho/WorkflowOutcomeIsRefusedPinLaw -/
def k1 : Class := { plain "com/example/klotho/klotho/WorkflowOutcomeIsRefusedPinLaw" (some 0) with
  accessFlags := 49
  interfaces := #[]
  cf := some (fileOf pool1 72 #[] #[{ accessFlags := 1, nameIndex := 5, descriptorIndex := 6, attributes := #[] }, { accessFlags := 9, nameIndex := 76, descriptorIndex := 77, attributes := #[] }] 49 2 #[] #[])
  fields := #[]
  methods := #[k1m0, k1m1]
  instanceTypes := #[]
  staticTypes := #[]
  resolved := Array.replicate 83 none
  statics := none }

def pool2 : Array CpInfo := pool [(1, .class_ 2), (0, u "java/lang/constant/Constable"), (0, .class_ 4), (0, u "java/lang/Object")] 6

/-- java/lang/constant/Constable -/
def k2 : Class := { plain "java/lang/constant/Constable" (some 0) with
  accessFlags := 1537
  interfaces := #[]
  cf := some (fileOf pool2 1 #[] #[] 1537 3 #[] #[])
  fields := #[]
  methods := #[]
  instanceTypes := #[]
  staticTypes := #[]
  resolved := Array.replicate 11 none
  statics := none }

def pool3 : Array CpInfo := pool [(1, .class_ 2), (0, u "java/lang/Comparable"), (0, .class_ 4), (0, u "java/lang/Object")] 7

/-- java/lang/Comparable -/
def k3 : Class := { plain "java/lang/Comparable" (some 0) with
  accessFlags := 1537
  interfaces := #[]
  cf := some (fileOf pool3 1 #[] #[] 1537 3 #[] #[])
  fields := #[]
  methods := #[]
  instanceTypes := #[]
  staticTypes := #[]
  resolved := Array.replicate 12 none
  statics := none }

def pool4 : Array CpInfo := pool [(1, .class_ 2), (0, u "java/io/Serializable"), (0, .class_ 4), (0, u "java/lang/Object")] 2

/-- java/io/Serializable -/
def k4 : Class := { plain "java/io/Serializable" (some 0) with
  accessFlags := 1537
  interfaces := #[]
  cf := some (fileOf pool4 1 #[] #[] 1537 3 #[] #[])
  fields := #[]
  methods := #[]
  instanceTypes := #[]
  staticTypes := #[]
  resolved := Array.replicate 7 none
  statics := none }

def pool5 : Array CpInfo := pool [(2, .class_ 4), (1, u "java/lang/Enum"), (0, u "name"), (0, u "Ljava/lang/String;"), (2, u "ordinal"), (0, u "I"), (1, .class_ 14), (1, u "java/lang/Object"), (4, u "hash"), (86, .class_ 108), (1, u "java/lang/Enum$EnumDesc"), (2, .class_ 112), (0, u "java/lang/constant/Constable"), (0, .class_ 114), (0, u "java/lang/Comparable"), (0, .class_ 116), (0, u "java/io/Serializable")] 87

/-- java/lang/Enum -/
def k5 : Class := { plain "java/lang/Enum" (some 0) with
  accessFlags := 1057
  interfaces := #[2, 3, 4]
  cf := some (fileOf pool5 2 #[.nestMembers #[106]] #[] 1057 12 #[111, 113, 115] #[{ accessFlags := 18, nameIndex := 5, descriptorIndex := 6, attributes := #[] }, { accessFlags := 18, nameIndex := 9, descriptorIndex := 10, attributes := #[] }, { accessFlags := 2, nameIndex := 19, descriptorIndex := 10, attributes := #[] }])
  fields := #[{ name := "name", type := (.object "java/lang/String"), accessFlags := 18, slot := 0, constantValue := 0 }, { name := "ordinal", type := .int, accessFlags := 18, slot := 1, constantValue := 0 }, { name := "hash", type := .int, accessFlags := 2, slot := 2, constantValue := 0 }]
  methods := #[]
  instanceTypes := #[(.object "java/lang/String"), .int, .int]
  staticTypes := #[]
  resolved := Array.replicate 204 none
  statics := none }

def pool6 : Array CpInfo := pool [(1, .class_ 2), (0, u "com/example/klotho/klotho/InstanceStatus"), (2, u "RUNNING"), (0, u "Lcom/example/klotho/klotho/InstanceStatus;"), (2, u "COMPLETED"), (2, u "FAILED"), (2, u "COMPENSATING"), (2, u "CANCELLED"), (2, u "WAITING_FOR_EVENT"), (2, u "WAITING_FOR_TIMER"), (2, u "WAITING_TO_COMPENSATE"), (2, u "$VALUES"), (0, u "[Lcom/example/klotho/klotho/InstanceStatus;"), (6, .class_ 40), (1, u "java/lang/Enum"), (8, u "storedName"), (0, u "Ljava/lang/String;"), (2, u "cancellable"), (0, u "Z"), (2, u "acceptsEvents"), (2, u "resumesIn"), (2, u "runsUnderLock")] 85

/-- com/example/klotho/klotho/InstanceStatus -/
def k6 : Class := { plain "com/example/klotho/klotho/InstanceStatus" (some 5) with
  accessFlags := 16433
  interfaces := #[]
  cf := some (fileOf pool6 1 #[] #[] 16433 38 #[] #[{ accessFlags := 16409, nameIndex := 5, descriptorIndex := 6, attributes := #[] }, { accessFlags := 16409, nameIndex := 9, descriptorIndex := 6, attributes := #[] }, { accessFlags := 16409, nameIndex := 12, descriptorIndex := 6, attributes := #[] }, { accessFlags := 16409, nameIndex := 15, descriptorIndex := 6, attributes := #[] }, { accessFlags := 16409, nameIndex := 18, descriptorIndex := 6, attributes := #[] }, { accessFlags := 16409, nameIndex := 21, descriptorIndex := 6, attributes := #[] }, { accessFlags := 16409, nameIndex := 24, descriptorIndex := 6, attributes := #[] }, { accessFlags := 16409, nameIndex := 27, descriptorIndex := 6, attributes := #[] }, { accessFlags := 18, nameIndex := 49, descriptorIndex := 50, attributes := #[] }, { accessFlags := 18, nameIndex := 53, descriptorIndex := 54, attributes := #[] }, { accessFlags := 18, nameIndex := 57, descriptorIndex := 54, attributes := #[] }, { accessFlags := 18, nameIndex := 60, descriptorIndex := 6, attributes := #[] }, { accessFlags := 18, nameIndex := 63, descriptorIndex := 54, attributes := #[] }, { accessFlags := 4122, nameIndex := 30, descriptorIndex := 31, attributes := #[] }])
  fields := #[{ name := "RUNNING", type := (.object "com/example/klotho/klotho/InstanceStatus"), accessFlags := 16409, slot := 0, constantValue := 0 }, { name := "COMPLETED", type := (.object "com/example/klotho/klotho/InstanceStatus"), accessFlags := 16409, slot := 1, constantValue := 0 }, { name := "FAILED", type := (.object "com/example/klotho/klotho/InstanceStatus"), accessFlags := 16409, slot := 2, constantValue := 0 }, { name := "COMPENSATING", type := (.object "com/example/klotho/klotho/InstanceStatus"), accessFlags := 16409, slot := 3, constantValue := 0 }, { name := "CANCELLED", type := (.object "com/example/klotho/klotho/InstanceStatus"), accessFlags := 16409, slot := 4, constantValue := 0 }, { name := "WAITING_FOR_EVENT", type := (.object "com/example/klotho/klotho/InstanceStatus"), accessFlags := 16409, slot := 5, constantValue := 0 }, { name := "WAITING_FOR_TIMER", type := (.object "com/example/klotho/klotho/InstanceStatus"), accessFlags := 16409, slot := 6, constantValue := 0 }, { name := "WAITING_TO_COMPENSATE", type := (.object "com/example/klotho/klotho/InstanceStatus"), accessFlags := 16409, slot := 7, constantValue := 0 }, { name := "storedName", type := (.object "java/lang/String"), accessFlags := 18, slot := 3, constantValue := 0 }, { name := "cancellable", type := .boolean, accessFlags := 18, slot := 4, constantValue := 0 }, { name := "acceptsEvents", type := .boolean, accessFlags := 18, slot := 5, constantValue := 0 }, { name := "resumesIn", type := (.object "com/example/klotho/klotho/InstanceStatus"), accessFlags := 18, slot := 6, constantValue := 0 }, { name := "runsUnderLock", type := .boolean, accessFlags := 18, slot := 7, constantValue := 0 }, { name := "$VALUES", type := (.array (.object "com/example/klotho/klotho/InstanceStatus")), accessFlags := 4122, slot := 8, constantValue := 0 }]
  methods := #[]
  instanceTypes := #[(.object "java/lang/String"), .int, .int, (.object "java/lang/String"), .boolean, .boolean, (.object "com/example/klotho/klotho/InstanceStatus"), .boolean]
  staticTypes := #[(.object "com/example/klotho/klotho/InstanceStatus"), (.object "com/example/klotho/klotho/InstanceStatus"), (.object "com/example/klotho/klotho/InstanceStatus"), (.object "com/example/klotho/klotho/InstanceStatus"), (.object "com/example/klotho/klotho/InstanceStatus"), (.object "com/example/klotho/klotho/InstanceStatus"), (.object "com/example/klotho/klotho/InstanceStatus"), (.object "com/example/klotho/klotho/InstanceStatus"), (.array (.object "com/example/klotho/klotho/InstanceStatus"))]
  resolved := Array.replicate 149 none
  statics := some 0 }

def pool7 : Array CpInfo := pool [(2, .class_ 4), (1, u "java/lang/CharSequence"), (42, .class_ 48), (0, u "java/lang/CharSequence$1CodePointIterator"), (10, .class_ 60), (0, u "java/lang/CharSequence$1CharIterator"), (5, .class_ 67), (0, u "java/lang/Object")] 63

/-- java/lang/CharSequence -/
def k7 : Class := { plain "java/lang/CharSequence" (some 0) with
  accessFlags := 1537
  interfaces := #[]
  cf := some (fileOf pool7 2 #[.nestMembers #[47, 59]] #[] 1537 66 #[] #[])
  fields := #[]
  methods := #[]
  instanceTypes := #[]
  staticTypes := #[]
  resolved := Array.replicate 131 none
  statics := none }

def pool8 : Array CpInfo := pool [(1, .class_ 2), (0, u "java/lang/constant/ConstantDesc"), (0, .class_ 4), (0, u "java/lang/Object")] 32

/-- java/lang/constant/ConstantDesc -/
def k8 : Class := { plain "java/lang/constant/ConstantDesc" (some 0) with
  accessFlags := 1537
  interfaces := #[]
  cf := some (fileOf pool8 1 #[] #[] 1537 3 #[] #[])
  fields := #[]
  methods := #[]
  instanceTypes := #[]
  staticTypes := #[]
  resolved := Array.replicate 37 none
  statics := none }

def pool9 : Array CpInfo := pool [(1, .methodref 2 3), (0, .class_ 4), (0, .nameAndType 5 6), (0, u "java/lang/Object"), (0, u "<init>"), (0, u "()V"), (0, .string 8), (0, u ""), (0, .fieldref 10 11), (0, .class_ 12), (0, .nameAndType 13 14), (0, u "java/lang/String"), (0, u "value"), (0, u "[B"), (0, .fieldref 10 16), (0, .nameAndType 17 18), (0, u "coder"), (0, u "B"), (2, u "hash"), (0, u "I"), (2, u "hashIsZero"), (0, u "Z"), (0, .methodref 10 28), (0, .nameAndType 5 29), (0, u "([CIILjava/lang/Void;)V"), (8, .fieldref 10 39), (0, .nameAndType 40 26), (0, u "COMPACT_STRINGS"), (1, .class_ 44), (1, u "java/lang/StringUTF16"), (0, u "compress"), (1, .methodref 42 48), (0, .nameAndType 49 50), (0, u "coderFromArrayLen"), (0, u "([BI)B"), (2, u "toBytes"), (53, .class_ 109), (1, u "java/lang/StringLatin1"), (32, u "()Z"), (34, .methodref 42 178), (0, .nameAndType 45 179), (0, u "([CII)[B"), (29, .methodref 10 210), (0, .nameAndType 5 211), (0, u "([BB)V"), (157, u "(C)Z"), (205, .class_ 576), (0, u "java/lang/CharSequence"), (22, u "CASE_INSENSITIVE_ORDER"), (0, u "Ljava/util/Comparator;"), (91, u "isEmpty"), (89, u "valueOf"), (0, u "(C)Ljava/lang/String;"), (226, u "([C)V"), (4, .methodref 107 1016), (0, .nameAndType 1017 369), (0, u "canEncode"), (0, .methodref 107 1019), (0, .nameAndType 53 1020), (0, u "(C)[B"), (80, u "serialPersistentFields"), (0, u "[Ljava/io/ObjectStreamField;"), (0, .class_ 1104), (0, u "java/lang/String$CaseInsensitiveComparator"), (1, .class_ 1107), (0, u "java/io/Serializable"), (0, .class_ 1109), (0, u "java/lang/Comparable"), (0, .class_ 1111), (0, u "java/lang/constant/Constable"), (0, .class_ 1113), (0, u "java/lang/constant/ConstantDesc"), (2, u "serialVersionUID"), (0, u "J"), (3, u "REPL"), (0, u "C"), (2, u "LATIN1"), (1, u "UTF16")] 323

def k9m0 : Method := { name := "<init>", desc := "()V", sig := { parameters := [], returnType := none }, accessFlags := 1, code := none }
def k9c1 : Code := { maxStack := 5, maxLocals := 2, code := jdk_42_method_3_code, exceptionTable := #[], attributes := #[] }
def k9m1 : Method := { name := "<init>", desc := "([C)V", sig := { parameters := [(.array .char)], returnType := none }, accessFlags := 1, code := some k9c1 }
def k9c2 : Code := { maxStack := 1, maxLocals := 1, code := jdk_42_method_55_code, exceptionTable := #[], attributes := #[] }
def k9m2 : Method := { name := "isEmpty", desc := "()Z", sig := { parameters := [], returnType := some .boolean }, accessFlags := 1, code := some k9c2 }
def k9c3 : Code := { maxStack := 4, maxLocals := 1, code := jdk_42_method_139_code, exceptionTable := #[], attributes := #[] }
def k9m3 : Method := { name := "valueOf", desc := "(C)Ljava/lang/String;", sig := { parameters := [.char], returnType := some (.object "java/lang/String") }, accessFlags := 9, code := some k9c3 }
def k9c4 : Code := { maxStack := 4, maxLocals := 6, code := jdk_42_method_149_code, exceptionTable := #[], attributes := #[] }
def k9m4 : Method := { name := "<init>", desc := "([CIILjava/lang/Void;)V", sig := { parameters := [(.array .char), .int, .int, (.object "java/lang/Void")], returnType := none }, accessFlags := 2, code := some k9c4 }
def k9c5 : Code := { maxStack := 2, maxLocals := 3, code := jdk_42_method_151_code, exceptionTable := #[], attributes := #[] }
def k9m5 : Method := { name := "<init>", desc := "([BB)V", sig := { parameters := [(.array .byte), .byte], returnType := none }, accessFlags := 0, code := some k9c5 }
/-- java/lang/String -/
def k9 : Class := { plain "java/lang/String" (some 0) with
  accessFlags := 49
  interfaces := #[4, 3, 7, 2, 8]
  cf := some (fileOf pool9 10 #[.nestMembers #[1103]] #[{ accessFlags := 1, nameIndex := 5, descriptorIndex := 6, attributes := #[] }, { accessFlags := 1, nameIndex := 5, descriptorIndex := 1010, attributes := #[] }, { accessFlags := 1, nameIndex := 692, descriptorIndex := 142, attributes := #[] }, { accessFlags := 9, nameIndex := 782, descriptorIndex := 783, attributes := #[] }, { accessFlags := 2, nameIndex := 5, descriptorIndex := 29, attributes := #[] }, { accessFlags := 0, nameIndex := 5, descriptorIndex := 211, attributes := #[] }] 49 2 #[1106, 1108, 575, 1110, 1112] #[{ accessFlags := 18, nameIndex := 13, descriptorIndex := 14, attributes := #[] }, { accessFlags := 18, nameIndex := 17, descriptorIndex := 18, attributes := #[] }, { accessFlags := 2, nameIndex := 21, descriptorIndex := 22, attributes := #[] }, { accessFlags := 2, nameIndex := 25, descriptorIndex := 26, attributes := #[] }, { accessFlags := 26, nameIndex := 1116, descriptorIndex := 1117, attributes := #[] }, { accessFlags := 24, nameIndex := 40, descriptorIndex := 26, attributes := #[] }, { accessFlags := 26, nameIndex := 1101, descriptorIndex := 1102, attributes := #[] }, { accessFlags := 26, nameIndex := 1121, descriptorIndex := 1122, attributes := #[] }, { accessFlags := 25, nameIndex := 599, descriptorIndex := 600, attributes := #[] }, { accessFlags := 24, nameIndex := 1125, descriptorIndex := 18, attributes := #[] }, { accessFlags := 24, nameIndex := 1127, descriptorIndex := 18, attributes := #[] }])
  fields := #[{ name := "value", type := (.array .byte), accessFlags := 18, slot := 0, constantValue := 0 }, { name := "coder", type := .byte, accessFlags := 18, slot := 1, constantValue := 0 }, { name := "hash", type := .int, accessFlags := 2, slot := 2, constantValue := 0 }, { name := "hashIsZero", type := .boolean, accessFlags := 2, slot := 3, constantValue := 0 }, { name := "serialVersionUID", type := .long, accessFlags := 26, slot := 0, constantValue := 0 }, { name := "COMPACT_STRINGS", type := .boolean, accessFlags := 24, slot := 1, constantValue := 0 }, { name := "serialPersistentFields", type := (.array (.object "java/io/ObjectStreamField")), accessFlags := 26, slot := 2, constantValue := 0 }, { name := "REPL", type := .char, accessFlags := 26, slot := 3, constantValue := 0 }, { name := "CASE_INSENSITIVE_ORDER", type := (.object "java/util/Comparator"), accessFlags := 25, slot := 4, constantValue := 0 }, { name := "LATIN1", type := .byte, accessFlags := 24, slot := 5, constantValue := 0 }, { name := "UTF16", type := .byte, accessFlags := 24, slot := 6, constantValue := 0 }]
  methods := #[k9m0, k9m1, k9m2, k9m3, k9m4, k9m5]
  instanceTypes := #[(.array .byte), .byte, .int, .boolean]
  staticTypes := #[.long, .boolean, (.array (.object "java/io/ObjectStreamField")), .char, (.object "java/util/Comparator"), .byte, .byte]
  resolved := Array.replicate 1451 none
  statics := some 1 }

def pool10 : Array CpInfo := pool [(1, .methodref 2 3), (0, .class_ 4), (0, .nameAndType 5 6), (0, u "java/lang/Object"), (0, u "<init>"), (0, u "()V"), (0, .class_ 8), (0, u "java/lang/Record")] 13

def k10c0 : Code := { maxStack := 1, maxLocals := 1, code := jdk_30_method_1_code, exceptionTable := #[], attributes := #[] }
def k10m0 : Method := { name := "<init>", desc := "()V", sig := { parameters := [], returnType := none }, accessFlags := 4, code := some k10c0 }
/-- java/lang/Record -/
def k10 : Class := { plain "java/lang/Record" (some 0) with
  accessFlags := 1057
  interfaces := #[]
  cf := some (fileOf pool10 7 #[] #[{ accessFlags := 4, nameIndex := 5, descriptorIndex := 6, attributes := #[] }] 1057 2 #[] #[])
  fields := #[]
  methods := #[k10m0]
  instanceTypes := #[]
  staticTypes := #[]
  resolved := Array.replicate 22 none
  statics := none }

def pool11 : Array CpInfo := pool [(1, .methodref 2 3), (0, .class_ 4), (0, .nameAndType 5 6), (0, u "java/lang/Record"), (0, u "<init>"), (0, u "()V"), (0, .fieldref 8 9), (0, .class_ 10), (0, .nameAndType 11 12), (0, u "com/example/klotho/klotho/WorkflowOutcome"), (0, u "instanceId"), (0, u "Ljava/lang/String;"), (0, .fieldref 8 14), (0, .nameAndType 15 16), (0, u "status"), (0, u "Lcom/example/klotho/klotho/InstanceStatus;"), (0, .fieldref 8 18), (0, .nameAndType 19 20), (0, u "result"), (0, u "Ljava/lang/Object;"), (0, .fieldref 8 22), (0, .nameAndType 23 24), (0, u "failure"), (0, u "Lcom/example/klotho/klotho/RecordedFailure;"), (0, .fieldref 8 26), (0, .nameAndType 27 12), (0, u "refusal"), (0, .methodref 8 29), (0, .nameAndType 5 30), (0, u "(Ljava/lang/String;Lcom/example/klotho/klotho/InstanceStatus;Ljava/lang/Object;Lcom/example/klotho/klotho/RecordedFailure;Ljava/lang/String;)V"), (5, u "()Z"), (14, u "(Ljava/lang/String;Lcom/example/klotho/klotho/InstanceStatus;Ljava/lang/Object;Lcom/example/klotho/klotho/RecordedFailure;)V"), (5, u "isRefused"), (1, u "isRunningElsewhere"), (0, u "()Ljava/lang/String;")] 31

def k11c0 : Code := { maxStack := 6, maxLocals := 5, code := prog_37_method_1_code, exceptionTable := #[], attributes := #[] }
def k11m0 : Method := { name := "<init>", desc := "(Ljava/lang/String;Lcom/example/klotho/klotho/InstanceStatus;Ljava/lang/Object;Lcom/example/klotho/klotho/RecordedFailure;)V", sig := { parameters := [(.object "java/lang/String"), (.object "com/example/klotho/klotho/InstanceStatus"), (.object "java/lang/Object"), (.object "com/example/klotho/klotho/RecordedFailure")], returnType := none }, accessFlags := 1, code := some k11c0 }
def k11c1 : Code := { maxStack := 2, maxLocals := 6, code := prog_37_method_2_code, exceptionTable := #[], attributes := #[] }
def k11m1 : Method := { name := "<init>", desc := "(Ljava/lang/String;Lcom/example/klotho/klotho/InstanceStatus;Ljava/lang/Object;Lcom/example/klotho/klotho/RecordedFailure;Ljava/lang/String;)V", sig := { parameters := [(.object "java/lang/String"), (.object "com/example/klotho/klotho/InstanceStatus"), (.object "java/lang/Object"), (.object "com/example/klotho/klotho/RecordedFailure"), (.object "java/lang/String")], returnType := none }, accessFlags := 1, code := some k11c1 }
def k11c2 : Code := { maxStack := 1, maxLocals := 1, code := prog_37_method_3_code, exceptionTable := #[], attributes := #[] }
def k11m2 : Method := { name := "isRefused", desc := "()Z", sig := { parameters := [], returnType := some .boolean }, accessFlags := 1, code := some k11c2 }
def k11c3 : Code := { maxStack := 1, maxLocals := 1, code := prog_37_method_4_code, exceptionTable := #[], attributes := #[] }
def k11m3 : Method := { name := "isRunningElsewhere", desc := "()Z", sig := { parameters := [], returnType := some .boolean }, accessFlags := 1, code := some k11c3 }
def k11c4 : Code := { maxStack := 1, maxLocals := 1, code := prog_37_method_12_code, exceptionTable := #[], attributes := #[] }
def k11m4 : Method := { name := "refusal", desc := "()Ljava/lang/String;", sig := { parameters := [], returnType := some (.object "java/lang/String") }, accessFlags := 1, code := some k11c4 }
/-- com/example/klotho/klotho/WorkflowOutcome -/
def k11 : Class := { plain "com/example/klotho/klotho/WorkflowOutcome" (some 10) with
  accessFlags := 49
  interfaces := #[]
  cf := some (fileOf pool11 8 #[] #[{ accessFlags := 1, nameIndex := 5, descriptorIndex := 51, attributes := #[] }, { accessFlags := 1, nameIndex := 5, descriptorIndex := 30, attributes := #[] }, { accessFlags := 1, nameIndex := 57, descriptorIndex := 36, attributes := #[] }, { accessFlags := 1, nameIndex := 59, descriptorIndex := 36, attributes := #[] }, { accessFlags := 1, nameIndex := 27, descriptorIndex := 60, attributes := #[] }] 49 2 #[] #[{ accessFlags := 18, nameIndex := 11, descriptorIndex := 12, attributes := #[] }, { accessFlags := 18, nameIndex := 15, descriptorIndex := 16, attributes := #[] }, { accessFlags := 18, nameIndex := 19, descriptorIndex := 20, attributes := #[] }, { accessFlags := 18, nameIndex := 23, descriptorIndex := 24, attributes := #[] }, { accessFlags := 18, nameIndex := 27, descriptorIndex := 12, attributes := #[] }])
  fields := #[{ name := "instanceId", type := (.object "java/lang/String"), accessFlags := 18, slot := 0, constantValue := 0 }, { name := "status", type := (.object "com/example/klotho/klotho/InstanceStatus"), accessFlags := 18, slot := 1, constantValue := 0 }, { name := "result", type := (.object "java/lang/Object"), accessFlags := 18, slot := 2, constantValue := 0 }, { name := "failure", type := (.object "com/example/klotho/klotho/RecordedFailure"), accessFlags := 18, slot := 3, constantValue := 0 }, { name := "refusal", type := (.object "java/lang/String"), accessFlags := 18, slot := 4, constantValue := 0 }]
  methods := #[k11m0, k11m1, k11m2, k11m3, k11m4]
  instanceTypes := #[(.object "java/lang/String"), (.object "com/example/klotho/klotho/InstanceStatus"), (.object "java/lang/Object"), (.object "com/example/klotho/klotho/RecordedFailure"), (.object "java/lang/String")]
  staticTypes := #[]
  resolved := Array.replicate 92 none
  statics := none }

def pool12 : Array CpInfo := pool [(4, .class_ 6), (1, u "java/lang/Object"), (0, u "<init>"), (0, u "()V"), (5, .class_ 16), (1, u "java/lang/StringLatin1"), (73, u "canEncode"), (14, u "(C)Z"), (15, u "$assertionsDisabled"), (0, u "Z"), (98, .class_ 223), (1, u "java/lang/StringLatin1$LinesSpliterator"), (156, u "toBytes"), (1, u "(C)[B"), (7, .class_ 391), (0, u "java/lang/StringLatin1$CharsSpliterator")] 3

def k12m0 : Method := { name := "<init>", desc := "()V", sig := { parameters := [], returnType := none }, accessFlags := 0, code := none }
def k12c1 : Code := { maxStack := 2, maxLocals := 1, code := jdk_43_method_3_code, exceptionTable := #[], attributes := #[] }
def k12m1 : Method := { name := "canEncode", desc := "(C)Z", sig := { parameters := [.char], returnType := some .boolean }, accessFlags := 9, code := some k12c1 }
def k12c2 : Code := { maxStack := 4, maxLocals := 1, code := jdk_43_method_46_code, exceptionTable := #[], attributes := #[] }
def k12m2 : Method := { name := "toBytes", desc := "(C)[B", sig := { parameters := [.char], returnType := some (.array .byte) }, accessFlags := 9, code := some k12c2 }
/-- java/lang/StringLatin1 -/
def k12 : Class := { plain "java/lang/StringLatin1" (some 0) with
  accessFlags := 48
  interfaces := #[]
  cf := some (fileOf pool12 14 #[.nestMembers #[390, 221]] #[{ accessFlags := 0, nameIndex := 7, descriptorIndex := 8, attributes := #[] }, { accessFlags := 9, nameIndex := 90, descriptorIndex := 105, attributes := #[] }, { accessFlags := 9, nameIndex := 380, descriptorIndex := 382, attributes := #[] }] 48 4 #[] #[{ accessFlags := 4120, nameIndex := 121, descriptorIndex := 122, attributes := #[] }])
  fields := #[{ name := "$assertionsDisabled", type := .boolean, accessFlags := 4120, slot := 0, constantValue := 0 }]
  methods := #[k12m0, k12m1, k12m2]
  instanceTypes := #[]
  staticTypes := #[.boolean]
  resolved := Array.replicate 395 none
  statics := none }

def pool13 : Array CpInfo := pool [(1, .methodref 2 3), (0, .class_ 4), (0, .nameAndType 5 6), (0, u "java/lang/Object"), (0, u "<init>"), (0, u "()V"), (1, .class_ 10), (1, u "java/lang/Number"), (2, .class_ 14), (0, u "java/io/Serializable"), (0, u "serialVersionUID"), (0, u "J")] 20

def k13c0 : Code := { maxStack := 1, maxLocals := 1, code := jdk_18_method_1_code, exceptionTable := #[], attributes := #[] }
def k13m0 : Method := { name := "<init>", desc := "()V", sig := { parameters := [], returnType := none }, accessFlags := 1, code := some k13c0 }
/-- java/lang/Number -/
def k13 : Class := { plain "java/lang/Number" (some 0) with
  accessFlags := 1057
  interfaces := #[4]
  cf := some (fileOf pool13 8 #[] #[{ accessFlags := 1, nameIndex := 5, descriptorIndex := 6, attributes := #[] }] 1057 2 #[13] #[{ accessFlags := 26, nameIndex := 15, descriptorIndex := 16, attributes := #[] }])
  fields := #[{ name := "serialVersionUID", type := .long, accessFlags := 26, slot := 0, constantValue := 0 }]
  methods := #[k13m0]
  instanceTypes := #[]
  staticTypes := #[.long]
  resolved := Array.replicate 37 none
  statics := none }

def pool14 : Array CpInfo := pool [(1, .class_ 2), (0, u "java/lang/Integer"), (16, u "digits"), (0, u "[C"), (46, u "<init>"), (17, u "DigitOnes"), (0, u "[B"), (2, u "DigitTens"), (10, .nameAndType 67 101), (0, u "()V"), (85, u "valueOf"), (0, u "(I)Ljava/lang/Integer;"), (0, .class_ 190), (0, u "java/lang/Integer$IntegerCache"), (0, .fieldref 189 192), (0, .nameAndType 193 194), (0, u "high"), (0, u "I"), (0, .fieldref 189 196), (0, .nameAndType 197 198), (0, u "cache"), (0, u "[Ljava/lang/Integer;"), (0, .methodref 1 200), (0, .nameAndType 67 201), (0, u "(I)V"), (0, .methodref 203 100), (0, .class_ 204), (0, u "java/lang/Number"), (0, .fieldref 1 206), (0, .nameAndType 207 194), (0, u "value"), (94, u "TYPE"), (0, u "Ljava/lang/Class;"), (0, .class_ 305), (0, u "java/lang/Comparable"), (0, .class_ 307), (0, u "java/lang/constant/Constable"), (0, .class_ 309), (0, u "java/lang/constant/ConstantDesc"), (0, u "MIN_VALUE"), (1, u "MAX_VALUE"), (3, u "SIZE"), (1, u "BYTES"), (1, u "serialVersionUID"), (0, u "J")] 131

def k14c0 : Code := { maxStack := 3, maxLocals := 1, code := jdk_33_method_22_code, exceptionTable := #[], attributes := #[] }
def k14m0 : Method := { name := "valueOf", desc := "(I)Ljava/lang/Integer;", sig := { parameters := [.int], returnType := some (.object "java/lang/Integer") }, accessFlags := 9, code := some k14c0 }
def k14c1 : Code := { maxStack := 2, maxLocals := 2, code := jdk_33_method_23_code, exceptionTable := #[], attributes := #[] }
def k14m1 : Method := { name := "<init>", desc := "(I)V", sig := { parameters := [.int], returnType := none }, accessFlags := 1, code := some k14c1 }
/-- java/lang/Integer -/
def k14 : Class := { plain "java/lang/Integer" (some 13) with
  accessFlags := 49
  interfaces := #[3, 2, 8]
  cf := some (fileOf pool14 1 #[.nestMembers #[189]] #[{ accessFlags := 9, nameIndex := 187, descriptorIndex := 188, attributes := #[] }, { accessFlags := 1, nameIndex := 67, descriptorIndex := 201, attributes := #[] }] 49 203 #[304, 306, 308] #[{ accessFlags := 25, nameIndex := 310, descriptorIndex := 194, attributes := #[] }, { accessFlags := 25, nameIndex := 312, descriptorIndex := 194, attributes := #[] }, { accessFlags := 25, nameIndex := 302, descriptorIndex := 303, attributes := #[] }, { accessFlags := 24, nameIndex := 19, descriptorIndex := 20, attributes := #[] }, { accessFlags := 24, nameIndex := 89, descriptorIndex := 86, attributes := #[] }, { accessFlags := 24, nameIndex := 85, descriptorIndex := 86, attributes := #[] }, { accessFlags := 18, nameIndex := 207, descriptorIndex := 194, attributes := #[] }, { accessFlags := 25, nameIndex := 316, descriptorIndex := 194, attributes := #[] }, { accessFlags := 25, nameIndex := 318, descriptorIndex := 194, attributes := #[] }, { accessFlags := 26, nameIndex := 320, descriptorIndex := 321, attributes := #[] }])
  fields := #[{ name := "MIN_VALUE", type := .int, accessFlags := 25, slot := 0, constantValue := 0 }, { name := "MAX_VALUE", type := .int, accessFlags := 25, slot := 1, constantValue := 0 }, { name := "TYPE", type := (.object "java/lang/Class"), accessFlags := 25, slot := 2, constantValue := 0 }, { name := "digits", type := (.array .char), accessFlags := 24, slot := 3, constantValue := 0 }, { name := "DigitTens", type := (.array .byte), accessFlags := 24, slot := 4, constantValue := 0 }, { name := "DigitOnes", type := (.array .byte), accessFlags := 24, slot := 5, constantValue := 0 }, { name := "value", type := .int, accessFlags := 18, slot := 0, constantValue := 0 }, { name := "SIZE", type := .int, accessFlags := 25, slot := 6, constantValue := 0 }, { name := "BYTES", type := .int, accessFlags := 25, slot := 7, constantValue := 0 }, { name := "serialVersionUID", type := .long, accessFlags := 26, slot := 8, constantValue := 0 }]
  methods := #[k14m0, k14m1]
  instanceTypes := #[.int]
  staticTypes := #[.int, .int, (.object "java/lang/Class"), (.array .char), (.array .byte), (.array .byte), .int, .int, .long]
  resolved := Array.replicate 453 none
  statics := none }

def pool15 : Array CpInfo := pool [(2, .class_ 4), (1, u "java/lang/Object"), (0, u "<init>"), (0, u "()V"), (0, .class_ 8), (0, u "java/lang/Integer"), (7, .class_ 18), (1, u "java/lang/Integer$IntegerCache"), (0, u "$assertionsDisabled"), (0, u "Z"), (26, u "high"), (0, u "I"), (8, u "archivedCache"), (0, u "[Ljava/lang/Integer;"), (12, u "cache"), (0, u "low")] 27

def k15m0 : Method := { name := "<init>", desc := "()V", sig := { parameters := [], returnType := none }, accessFlags := 2, code := none }
/-- java/lang/Integer$IntegerCache -/
def k15 : Class := { plain "java/lang/Integer$IntegerCache" (some 0) with
  accessFlags := 48
  interfaces := #[]
  cf := some (fileOf pool15 16 #[.nestHost 7] #[{ accessFlags := 2, nameIndex := 5, descriptorIndex := 6, attributes := #[] }] 48 2 #[] #[{ accessFlags := 24, nameIndex := 72, descriptorIndex := 48, attributes := #[] }, { accessFlags := 24, nameIndex := 47, descriptorIndex := 48, attributes := #[] }, { accessFlags := 24, nameIndex := 71, descriptorIndex := 58, attributes := #[] }, { accessFlags := 8, nameIndex := 57, descriptorIndex := 58, attributes := #[] }, { accessFlags := 4120, nameIndex := 19, descriptorIndex := 20, attributes := #[] }])
  fields := #[{ name := "low", type := .int, accessFlags := 24, slot := 0, constantValue := 0 }, { name := "high", type := .int, accessFlags := 24, slot := 1, constantValue := 0 }, { name := "cache", type := (.array (.object "java/lang/Integer")), accessFlags := 24, slot := 2, constantValue := 0 }, { name := "archivedCache", type := (.array (.object "java/lang/Integer")), accessFlags := 8, slot := 3, constantValue := 0 }, { name := "$assertionsDisabled", type := .boolean, accessFlags := 4120, slot := 4, constantValue := 0 }]
  methods := #[k15m0]
  instanceTypes := #[]
  staticTypes := #[.int, .int, (.array (.object "java/lang/Integer")), (.array (.object "java/lang/Integer")), .boolean]
  resolved := Array.replicate 100 none
  statics := some 2 }

def pool16 : Array CpInfo := pool [(6, .class_ 8), (1, u "java/lang/Object"), (0, u "<init>"), (0, u "()V"), (1, .class_ 14), (1, u "java/lang/StringUTF16"), (31, u "$assertionsDisabled"), (0, u "Z"), (13, u "HI_BYTE_SHIFT"), (0, u "I"), (2, u "LO_BYTE_SHIFT"), (49, .methodref 12 116), (0, .nameAndType 117 118), (0, u "compress"), (0, u "([CI[BII)I"), (3, u "([CII)[B"), (138, u "coderFromArrayLen"), (0, u "([BI)B"), (106, .class_ 371), (1, u "java/lang/StringUTF16$LinesSpliterator"), (58, u "MAX_LENGTH"), (196, .class_ 628), (0, u "java/lang/StringUTF16$CodePointsSpliterator"), (0, .class_ 630), (0, u "java/lang/StringUTF16$CharsSpliterator")] 4

def k16m0 : Method := { name := "<init>", desc := "()V", sig := { parameters := [], returnType := none }, accessFlags := 0, code := none }
def k16c1 : Code := { maxStack := 2, maxLocals := 2, code := jdk_52_method_15_code, exceptionTable := #[], attributes := #[] }
def k16m1 : Method := { name := "coderFromArrayLen", desc := "([BI)B", sig := { parameters := [(.array .byte), .int], returnType := some .byte }, accessFlags := 8, code := some k16c1 }
def k16c2 : Code := { maxStack := 5, maxLocals := 6, code := jdk_52_method_16_code, exceptionTable := #[], attributes := #[] }
def k16m2 : Method := { name := "compress", desc := "([CII)[B", sig := { parameters := [(.array .char), .int, .int], returnType := some (.array .byte) }, accessFlags := 9, code := some k16c2 }
def k16c3 : Code := { maxStack := 3, maxLocals := 7, code := jdk_52_method_21_code, exceptionTable := #[], attributes := #[] }
def k16m3 : Method := { name := "compress", desc := "([CI[BII)I", sig := { parameters := [(.array .char), .int, (.array .byte), .int, .int], returnType := some .int }, accessFlags := 9, code := some k16c3 }
/-- java/lang/StringUTF16 -/
def k16 : Class := { plain "java/lang/StringUTF16" (some 0) with
  accessFlags := 48
  interfaces := #[]
  cf := some (fileOf pool16 12 #[.nestMembers #[627, 629, 369]] #[{ accessFlags := 0, nameIndex := 9, descriptorIndex := 10, attributes := #[] }, { accessFlags := 8, nameIndex := 261, descriptorIndex := 262, attributes := #[] }, { accessFlags := 9, nameIndex := 117, descriptorIndex := 122, attributes := #[] }, { accessFlags := 9, nameIndex := 117, descriptorIndex := 118, attributes := #[] }] 48 6 #[] #[{ accessFlags := 26, nameIndex := 61, descriptorIndex := 62, attributes := #[] }, { accessFlags := 26, nameIndex := 65, descriptorIndex := 62, attributes := #[] }, { accessFlags := 24, nameIndex := 430, descriptorIndex := 62, attributes := #[] }, { accessFlags := 4120, nameIndex := 46, descriptorIndex := 47, attributes := #[] }])
  fields := #[{ name := "HI_BYTE_SHIFT", type := .int, accessFlags := 26, slot := 0, constantValue := 0 }, { name := "LO_BYTE_SHIFT", type := .int, accessFlags := 26, slot := 1, constantValue := 0 }, { name := "MAX_LENGTH", type := .int, accessFlags := 24, slot := 2, constantValue := 0 }, { name := "$assertionsDisabled", type := .boolean, accessFlags := 4120, slot := 3, constantValue := 0 }]
  methods := #[k16m0, k16m1, k16m2, k16m3]
  instanceTypes := #[]
  staticTypes := #[.int, .int, .int, .boolean]
  resolved := Array.replicate 635 none
  statics := none }

def pool17 : Array CpInfo := pool [(1, .methodref 2 3), (0, .class_ 4), (0, .nameAndType 5 6), (0, u "java/lang/Record"), (0, u "<init>"), (0, u "()V"), (0, .string 8), (0, u "errorType"), (0, .methodref 10 11), (0, .class_ 12), (0, .nameAndType 13 14), (0, u "java/util/Objects"), (0, u "requireNonNull"), (0, u "(Ljava/lang/Object;Ljava/lang/String;)Ljava/lang/Object;"), (0, .methodref 16 17), (0, .class_ 18), (0, .nameAndType 19 20), (0, u "java/lang/String"), (0, u "isEmpty"), (0, u "()Z"), (7, .fieldref 29 30), (0, .class_ 31), (0, .nameAndType 8 32), (0, u "com/example/klotho/klotho/RecordedFailure"), (0, u "Ljava/lang/String;"), (0, .fieldref 29 34), (0, .nameAndType 35 32), (0, u "message"), (12, u "(Ljava/lang/String;Ljava/lang/String;)V")] 37

def k17c0 : Code := { maxStack := 3, maxLocals := 3, code := prog_24_method_1_code, exceptionTable := #[], attributes := #[] }
def k17m0 : Method := { name := "<init>", desc := "(Ljava/lang/String;Ljava/lang/String;)V", sig := { parameters := [(.object "java/lang/String"), (.object "java/lang/String")], returnType := none }, accessFlags := 1, code := some k17c0 }
/-- com/example/klotho/klotho/RecordedFailure -/
def k17 : Class := { plain "com/example/klotho/klotho/RecordedFailure" (some 10) with
  accessFlags := 49
  interfaces := #[]
  cf := some (fileOf pool17 29 #[] #[{ accessFlags := 1, nameIndex := 5, descriptorIndex := 48, attributes := #[] }] 49 2 #[] #[{ accessFlags := 18, nameIndex := 8, descriptorIndex := 32, attributes := #[] }, { accessFlags := 18, nameIndex := 35, descriptorIndex := 32, attributes := #[] }])
  fields := #[{ name := "errorType", type := (.object "java/lang/String"), accessFlags := 18, slot := 0, constantValue := 0 }, { name := "message", type := (.object "java/lang/String"), accessFlags := 18, slot := 1, constantValue := 0 }]
  methods := #[k17m0]
  instanceTypes := #[(.object "java/lang/String"), (.object "java/lang/String")]
  staticTypes := #[]
  resolved := Array.replicate 86 none
  statics := none }

def pool18 : Array CpInfo := pool [(2, .class_ 4), (1, u "java/lang/Object"), (0, u "<init>"), (0, u "()V"), (35, .class_ 44), (1, u "java/util/Objects"), (0, u "requireNonNull"), (48, u "(Ljava/lang/Object;Ljava/lang/String;)Ljava/lang/Object;")] 89

def k18m0 : Method := { name := "<init>", desc := "()V", sig := { parameters := [], returnType := none }, accessFlags := 2, code := none }
def k18c1 : Code := { maxStack := 3, maxLocals := 2, code := jdk_31_method_11_code, exceptionTable := #[], attributes := #[] }
def k18m1 : Method := { name := "requireNonNull", desc := "(Ljava/lang/Object;Ljava/lang/String;)Ljava/lang/Object;", sig := { parameters := [(.object "java/lang/Object"), (.object "java/lang/String")], returnType := some (.object "java/lang/Object") }, accessFlags := 9, code := some k18c1 }
/-- java/util/Objects -/
def k18 : Class := { plain "java/util/Objects" (some 0) with
  accessFlags := 49
  interfaces := #[]
  cf := some (fileOf pool18 42 #[] #[{ accessFlags := 2, nameIndex := 5, descriptorIndex := 6, attributes := #[] }, { accessFlags := 9, nameIndex := 45, descriptorIndex := 94, attributes := #[] }] 49 2 #[] #[])
  fields := #[]
  methods := #[k18m0, k18m1]
  instanceTypes := #[]
  staticTypes := #[]
  resolved := Array.replicate 184 none
  statics := none }

def pool19 : Array CpInfo := pool [(2, .class_ 4), (1, u "java/lang/Object"), (0, u "<init>"), (0, u "()V"), (17, .class_ 26), (1, u "jdk/internal/util/Preconditions"), (28, .class_ 56), (0, u "jdk/internal/util/Preconditions$4"), (57, .class_ 115), (0, u "jdk/internal/util/Preconditions$1"), (7, u "SIOOBE_FORMATTER"), (0, u "Ljava/util/function/BiFunction;"), (0, .class_ 126), (0, u "jdk/internal/util/Preconditions$2"), (3, u "AIOOBE_FORMATTER"), (0, .class_ 132), (0, u "jdk/internal/util/Preconditions$3"), (3, u "IOOBE_FORMATTER")] 57

def k19m0 : Method := { name := "<init>", desc := "()V", sig := { parameters := [], returnType := none }, accessFlags := 1, code := none }
/-- jdk/internal/util/Preconditions -/
def k19 : Class := { plain "jdk/internal/util/Preconditions" (some 0) with
  accessFlags := 33
  interfaces := #[]
  cf := some (fileOf pool19 24 #[.nestMembers #[55, 131, 125, 114]] #[{ accessFlags := 1, nameIndex := 5, descriptorIndex := 6, attributes := #[] }] 33 2 #[] #[{ accessFlags := 25, nameIndex := 123, descriptorIndex := 124, attributes := #[] }, { accessFlags := 25, nameIndex := 130, descriptorIndex := 124, attributes := #[] }, { accessFlags := 25, nameIndex := 136, descriptorIndex := 124, attributes := #[] }])
  fields := #[{ name := "SIOOBE_FORMATTER", type := (.object "java/util/function/BiFunction"), accessFlags := 25, slot := 0, constantValue := 0 }, { name := "AIOOBE_FORMATTER", type := (.object "java/util/function/BiFunction"), accessFlags := 25, slot := 1, constantValue := 0 }, { name := "IOOBE_FORMATTER", type := (.object "java/util/function/BiFunction"), accessFlags := 25, slot := 2, constantValue := 0 }]
  methods := #[k19m0]
  instanceTypes := #[]
  staticTypes := #[(.object "java/util/function/BiFunction"), (.object "java/util/function/BiFunction"), (.object "java/util/function/BiFunction")]
  resolved := Array.replicate 194 none
  statics := some 3 }

def pool20 : Array CpInfo := pool [(9, u "<init>"), (6, .class_ 18), (1, u "java/lang/Object"), (0, u "()V"), (1, .class_ 23), (1, u "jdk/internal/util/ArraysSupport"), (0, u "LOG2_ARRAY_LONG_INDEX_SCALE"), (0, u "I"), (2, u "U"), (0, u "Ljdk/internal/misc/Unsafe;"), (8, u "BIG_ENDIAN"), (0, u "Z"), (8, u "LOG2_BYTE_BIT_SIZE"), (4, u "LOG2_ARRAY_INT_INDEX_SCALE"), (54, u "JLA"), (0, u "Ljdk/internal/access/JavaLangAccess;"), (11, u "LOG2_ARRAY_BOOLEAN_INDEX_SCALE"), (9, u "LOG2_ARRAY_BYTE_INDEX_SCALE"), (5, u "LOG2_ARRAY_CHAR_INDEX_SCALE"), (5, u "LOG2_ARRAY_SHORT_INDEX_SCALE"), (18, u "LOG2_ARRAY_FLOAT_INDEX_SCALE"), (24, u "LOG2_ARRAY_DOUBLE_INDEX_SCALE"), (89, u "T_BOOLEAN"), (2, u "T_CHAR"), (1, u "T_FLOAT"), (1, u "T_DOUBLE"), (1, u "T_BYTE"), (1, u "T_SHORT"), (1, u "T_INT"), (1, u "T_LONG"), (1, u "SOFT_MAX_ARRAY_LENGTH")] 83

def k20m0 : Method := { name := "<init>", desc := "()V", sig := { parameters := [], returnType := none }, accessFlags := 2, code := none }
/-- jdk/internal/util/ArraysSupport -/
def k20 : Class := { plain "jdk/internal/util/ArraysSupport" (some 0) with
  accessFlags := 33
  interfaces := #[]
  cf := some (fileOf pool20 21 #[] #[{ accessFlags := 2, nameIndex := 9, descriptorIndex := 19, attributes := #[] }] 33 16 #[] #[{ accessFlags := 24, nameIndex := 28, descriptorIndex := 29, attributes := #[] }, { accessFlags := 26, nameIndex := 38, descriptorIndex := 39, attributes := #[] }, { accessFlags := 25, nameIndex := 121, descriptorIndex := 25, attributes := #[] }, { accessFlags := 25, nameIndex := 131, descriptorIndex := 25, attributes := #[] }, { accessFlags := 25, nameIndex := 137, descriptorIndex := 25, attributes := #[] }, { accessFlags := 25, nameIndex := 143, descriptorIndex := 25, attributes := #[] }, { accessFlags := 25, nameIndex := 53, descriptorIndex := 25, attributes := #[] }, { accessFlags := 25, nameIndex := 24, descriptorIndex := 25, attributes := #[] }, { accessFlags := 25, nameIndex := 162, descriptorIndex := 25, attributes := #[] }, { accessFlags := 25, nameIndex := 187, descriptorIndex := 25, attributes := #[] }, { accessFlags := 26, nameIndex := 48, descriptorIndex := 25, attributes := #[] }, { accessFlags := 25, nameIndex := 277, descriptorIndex := 25, attributes := #[] }, { accessFlags := 25, nameIndex := 280, descriptorIndex := 25, attributes := #[] }, { accessFlags := 25, nameIndex := 282, descriptorIndex := 25, attributes := #[] }, { accessFlags := 25, nameIndex := 284, descriptorIndex := 25, attributes := #[] }, { accessFlags := 25, nameIndex := 286, descriptorIndex := 25, attributes := #[] }, { accessFlags := 25, nameIndex := 288, descriptorIndex := 25, attributes := #[] }, { accessFlags := 25, nameIndex := 290, descriptorIndex := 25, attributes := #[] }, { accessFlags := 25, nameIndex := 292, descriptorIndex := 25, attributes := #[] }, { accessFlags := 26, nameIndex := 108, descriptorIndex := 109, attributes := #[] }, { accessFlags := 25, nameIndex := 294, descriptorIndex := 25, attributes := #[] }])
  fields := #[{ name := "U", type := (.object "jdk/internal/misc/Unsafe"), accessFlags := 24, slot := 0, constantValue := 0 }, { name := "BIG_ENDIAN", type := .boolean, accessFlags := 26, slot := 1, constantValue := 0 }, { name := "LOG2_ARRAY_BOOLEAN_INDEX_SCALE", type := .int, accessFlags := 25, slot := 2, constantValue := 0 }, { name := "LOG2_ARRAY_BYTE_INDEX_SCALE", type := .int, accessFlags := 25, slot := 3, constantValue := 0 }, { name := "LOG2_ARRAY_CHAR_INDEX_SCALE", type := .int, accessFlags := 25, slot := 4, constantValue := 0 }, { name := "LOG2_ARRAY_SHORT_INDEX_SCALE", type := .int, accessFlags := 25, slot := 5, constantValue := 0 }, { name := "LOG2_ARRAY_INT_INDEX_SCALE", type := .int, accessFlags := 25, slot := 6, constantValue := 0 }, { name := "LOG2_ARRAY_LONG_INDEX_SCALE", type := .int, accessFlags := 25, slot := 7, constantValue := 0 }, { name := "LOG2_ARRAY_FLOAT_INDEX_SCALE", type := .int, accessFlags := 25, slot := 8, constantValue := 0 }, { name := "LOG2_ARRAY_DOUBLE_INDEX_SCALE", type := .int, accessFlags := 25, slot := 9, constantValue := 0 }, { name := "LOG2_BYTE_BIT_SIZE", type := .int, accessFlags := 26, slot := 10, constantValue := 0 }, { name := "T_BOOLEAN", type := .int, accessFlags := 25, slot := 11, constantValue := 0 }, { name := "T_CHAR", type := .int, accessFlags := 25, slot := 12, constantValue := 0 }, { name := "T_FLOAT", type := .int, accessFlags := 25, slot := 13, constantValue := 0 }, { name := "T_DOUBLE", type := .int, accessFlags := 25, slot := 14, constantValue := 0 }, { name := "T_BYTE", type := .int, accessFlags := 25, slot := 15, constantValue := 0 }, { name := "T_SHORT", type := .int, accessFlags := 25, slot := 16, constantValue := 0 }, { name := "T_INT", type := .int, accessFlags := 25, slot := 17, constantValue := 0 }, { name := "T_LONG", type := .int, accessFlags := 25, slot := 18, constantValue := 0 }, { name := "JLA", type := (.object "jdk/internal/access/JavaLangAccess"), accessFlags := 26, slot := 19, constantValue := 0 }, { name := "SOFT_MAX_ARRAY_LENGTH", type := .int, accessFlags := 25, slot := 20, constantValue := 0 }]
  methods := #[k20m0]
  instanceTypes := #[]
  staticTypes := #[(.object "jdk/internal/misc/Unsafe"), .boolean, .int, .int, .int, .int, .int, .int, .int, .int, .int, .int, .int, .int, .int, .int, .int, .int, .int, (.object "jdk/internal/access/JavaLangAccess"), .int]
  resolved := Array.replicate 378 none
  statics := none }

def pool21 : Array CpInfo := pool [(1, u "java/lang/Cloneable"), (0, .class_ 1), (0, u "java/lang/Object"), (0, .class_ 3)] 3

/-- java/lang/Cloneable -/
def k21 : Class := { plain "java/lang/Cloneable" (some 0) with
  accessFlags := 1537
  interfaces := #[]
  cf := some (fileOf pool21 2 #[] #[] 1537 4 #[] #[])
  fields := #[]
  methods := #[]
  instanceTypes := #[]
  staticTypes := #[]
  resolved := Array.replicate 8 none
  statics := none }

/-- the primitive byte -/
def k22 : Class := { plain "byte" none with kind := .primitive 'B', accessFlags := 0x411 }
/-- [B -/
def k23 : Class := { plain "[B" (some 0) with kind := .array 22 .byte, interfaces := #[21, 4], accessFlags := 1041 }

/-- the primitive char -/
def k24 : Class := { plain "char" none with kind := .primitive 'C', accessFlags := 0x411 }
/-- [C -/
def k25 : Class := { plain "[C" (some 0) with kind := .array 24 .char, interfaces := #[21, 4], accessFlags := 1041 }

/-- the primitive int -/
def k26 : Class := { plain "int" none with kind := .primitive 'I', accessFlags := 0x411 }
/-- [I -/
def k27 : Class := { plain "[I" (some 0) with kind := .array 26 .int, interfaces := #[21, 4], accessFlags := 1041 }

/-- [Lcom/example/klotho/klotho/InstanceStatus; -/
def k28 : Class := { plain "[Lcom/example/klotho/klotho/InstanceStatus;" (some 0) with kind := .array 6 (.object "com/example/klotho/klotho/InstanceStatus"), interfaces := #[21, 4], accessFlags := 1041 }

/-- [Ljava/lang/Integer; -/
def k29 : Class := { plain "[Ljava/lang/Integer;" (some 0) with kind := .array 14 (.object "java/lang/Integer"), interfaces := #[21, 4], accessFlags := 1041 }

def heap : Heap := #[{ cls := 6, slots := #[.ref 261, .ref 262, .ref 263, .ref 264, .ref 265, .ref 266, .ref 267, .ref 268, .null], vm := .statics 6 },
  { cls := 9, slots := #[.long 0, .int 1, .null, .int 0, .null, .int 0, .int 0], vm := .statics 9 },
  { cls := 15, slots := #[.int 0, .int 127, .ref 4, .null, .int 0], vm := .statics 15 },
  { cls := 19, slots := #[.null, .null, .null], vm := .statics 19 },
  { cls := 29, slots := #[.ref 5, .ref 6, .ref 7, .ref 8, .ref 9, .ref 10, .ref 11, .ref 12, .ref 13, .ref 14, .ref 15, .ref 16, .ref 17, .ref 18, .ref 19, .ref 20, .ref 21, .ref 22, .ref 23, .ref 24, .ref 25, .ref 26, .ref 27, .ref 28, .ref 29, .ref 30, .ref 31, .ref 32, .ref 33, .ref 34, .ref 35, .ref 36, .ref 37, .ref 38, .ref 39, .ref 40, .ref 41, .ref 42, .ref 43, .ref 44, .ref 45, .ref 46, .ref 47, .ref 48, .ref 49, .ref 50, .ref 51, .ref 52, .ref 53, .ref 54, .ref 55, .ref 56, .ref 57, .ref 58, .ref 59, .ref 60, .ref 61, .ref 62, .ref 63, .ref 64, .ref 65, .ref 66, .ref 67, .ref 68, .ref 69, .ref 70, .ref 71, .ref 72, .ref 73, .ref 74, .ref 75, .ref 76, .ref 77, .ref 78, .ref 79, .ref 80, .ref 81, .ref 82, .ref 83, .ref 84, .ref 85, .ref 86, .ref 87, .ref 88, .ref 89, .ref 90, .ref 91, .ref 92, .ref 93, .ref 94, .ref 95, .ref 96, .ref 97, .ref 98, .ref 99, .ref 100, .ref 101, .ref 102, .ref 103, .ref 104, .ref 105, .ref 106, .ref 107, .ref 108, .ref 109, .ref 110, .ref 111, .ref 112, .ref 113, .ref 114, .ref 115, .ref 116, .ref 117, .ref 118, .ref 119, .ref 120, .ref 121, .ref 122, .ref 123, .ref 124, .ref 125, .ref 126, .ref 127, .ref 128, .ref 129, .ref 130, .ref 131, .ref 132, .ref 133, .ref 134, .ref 135, .ref 136, .ref 137, .ref 138, .ref 139, .ref 140, .ref 141, .ref 142, .ref 143, .ref 144, .ref 145, .ref 146, .ref 147, .ref 148, .ref 149, .ref 150, .ref 151, .ref 152, .ref 153, .ref 154, .ref 155, .ref 156, .ref 157, .ref 158, .ref 159, .ref 160, .ref 161, .ref 162, .ref 163, .ref 164, .ref 165, .ref 166, .ref 167, .ref 168, .ref 169, .ref 170, .ref 171, .ref 172, .ref 173, .ref 174, .ref 175, .ref 176, .ref 177, .ref 178, .ref 179, .ref 180, .ref 181, .ref 182, .ref 183, .ref 184, .ref 185, .ref 186, .ref 187, .ref 188, .ref 189, .ref 190, .ref 191, .ref 192, .ref 193, .ref 194, .ref 195, .ref 196, .ref 197, .ref 198, .ref 199, .ref 200, .ref 201, .ref 202, .ref 203, .ref 204, .ref 205, .ref 206, .ref 207, .ref 208, .ref 209, .ref 210, .ref 211, .ref 212, .ref 213, .ref 214, .ref 215, .ref 216, .ref 217, .ref 218, .ref 219, .ref 220, .ref 221, .ref 222, .ref 223, .ref 224, .ref 225, .ref 226, .ref 227, .ref 228, .ref 229, .ref 230, .ref 231, .ref 232, .ref 233, .ref 234, .ref 235, .ref 236, .ref 237, .ref 238, .ref 239, .ref 240, .ref 241, .ref 242, .ref 243, .ref 244, .ref 245, .ref 246, .ref 247, .ref 248, .ref 249, .ref 250, .ref 251, .ref 252, .ref 253, .ref 254, .ref 255, .ref 256, .ref 257, .ref 258, .ref 259, .ref 260], vm := .none },
  { cls := 14, slots := #[.int (-128)], vm := .none },
  { cls := 14, slots := #[.int (-127)], vm := .none },
  { cls := 14, slots := #[.int (-126)], vm := .none },
  { cls := 14, slots := #[.int (-125)], vm := .none },
  { cls := 14, slots := #[.int (-124)], vm := .none },
  { cls := 14, slots := #[.int (-123)], vm := .none },
  { cls := 14, slots := #[.int (-122)], vm := .none },
  { cls := 14, slots := #[.int (-121)], vm := .none },
  { cls := 14, slots := #[.int (-120)], vm := .none },
  { cls := 14, slots := #[.int (-119)], vm := .none },
  { cls := 14, slots := #[.int (-118)], vm := .none },
  { cls := 14, slots := #[.int (-117)], vm := .none },
  { cls := 14, slots := #[.int (-116)], vm := .none },
  { cls := 14, slots := #[.int (-115)], vm := .none },
  { cls := 14, slots := #[.int (-114)], vm := .none },
  { cls := 14, slots := #[.int (-113)], vm := .none },
  { cls := 14, slots := #[.int (-112)], vm := .none },
  { cls := 14, slots := #[.int (-111)], vm := .none },
  { cls := 14, slots := #[.int (-110)], vm := .none },
  { cls := 14, slots := #[.int (-109)], vm := .none },
  { cls := 14, slots := #[.int (-108)], vm := .none },
  { cls := 14, slots := #[.int (-107)], vm := .none },
  { cls := 14, slots := #[.int (-106)], vm := .none },
  { cls := 14, slots := #[.int (-105)], vm := .none },
  { cls := 14, slots := #[.int (-104)], vm := .none },
  { cls := 14, slots := #[.int (-103)], vm := .none },
  { cls := 14, slots := #[.int (-102)], vm := .none },
  { cls := 14, slots := #[.int (-101)], vm := .none },
  { cls := 14, slots := #[.int (-100)], vm := .none },
  { cls := 14, slots := #[.int (-99)], vm := .none },
  { cls := 14, slots := #[.int (-98)], vm := .none },
  { cls := 14, slots := #[.int (-97)], vm := .none },
  { cls := 14, slots := #[.int (-96)], vm := .none },
  { cls := 14, slots := #[.int (-95)], vm := .none },
  { cls := 14, slots := #[.int (-94)], vm := .none },
  { cls := 14, slots := #[.int (-93)], vm := .none },
  { cls := 14, slots := #[.int (-92)], vm := .none },
  { cls := 14, slots := #[.int (-91)], vm := .none },
  { cls := 14, slots := #[.int (-90)], vm := .none },
  { cls := 14, slots := #[.int (-89)], vm := .none },
  { cls := 14, slots := #[.int (-88)], vm := .none },
  { cls := 14, slots := #[.int (-87)], vm := .none },
  { cls := 14, slots := #[.int (-86)], vm := .none },
  { cls := 14, slots := #[.int (-85)], vm := .none },
  { cls := 14, slots := #[.int (-84)], vm := .none },
  { cls := 14, slots := #[.int (-83)], vm := .none },
  { cls := 14, slots := #[.int (-82)], vm := .none },
  { cls := 14, slots := #[.int (-81)], vm := .none },
  { cls := 14, slots := #[.int (-80)], vm := .none },
  { cls := 14, slots := #[.int (-79)], vm := .none },
  { cls := 14, slots := #[.int (-78)], vm := .none },
  { cls := 14, slots := #[.int (-77)], vm := .none },
  { cls := 14, slots := #[.int (-76)], vm := .none },
  { cls := 14, slots := #[.int (-75)], vm := .none },
  { cls := 14, slots := #[.int (-74)], vm := .none },
  { cls := 14, slots := #[.int (-73)], vm := .none },
  { cls := 14, slots := #[.int (-72)], vm := .none },
  { cls := 14, slots := #[.int (-71)], vm := .none },
  { cls := 14, slots := #[.int (-70)], vm := .none },
  { cls := 14, slots := #[.int (-69)], vm := .none },
  { cls := 14, slots := #[.int (-68)], vm := .none },
  { cls := 14, slots := #[.int (-67)], vm := .none },
  { cls := 14, slots := #[.int (-66)], vm := .none },
  { cls := 14, slots := #[.int (-65)], vm := .none },
  { cls := 14, slots := #[.int (-64)], vm := .none },
  { cls := 14, slots := #[.int (-63)], vm := .none },
  { cls := 14, slots := #[.int (-62)], vm := .none },
  { cls := 14, slots := #[.int (-61)], vm := .none },
  { cls := 14, slots := #[.int (-60)], vm := .none },
  { cls := 14, slots := #[.int (-59)], vm := .none },
  { cls := 14, slots := #[.int (-58)], vm := .none },
  { cls := 14, slots := #[.int (-57)], vm := .none },
  { cls := 14, slots := #[.int (-56)], vm := .none },
  { cls := 14, slots := #[.int (-55)], vm := .none },
  { cls := 14, slots := #[.int (-54)], vm := .none },
  { cls := 14, slots := #[.int (-53)], vm := .none },
  { cls := 14, slots := #[.int (-52)], vm := .none },
  { cls := 14, slots := #[.int (-51)], vm := .none },
  { cls := 14, slots := #[.int (-50)], vm := .none },
  { cls := 14, slots := #[.int (-49)], vm := .none },
  { cls := 14, slots := #[.int (-48)], vm := .none },
  { cls := 14, slots := #[.int (-47)], vm := .none },
  { cls := 14, slots := #[.int (-46)], vm := .none },
  { cls := 14, slots := #[.int (-45)], vm := .none },
  { cls := 14, slots := #[.int (-44)], vm := .none },
  { cls := 14, slots := #[.int (-43)], vm := .none },
  { cls := 14, slots := #[.int (-42)], vm := .none },
  { cls := 14, slots := #[.int (-41)], vm := .none },
  { cls := 14, slots := #[.int (-40)], vm := .none },
  { cls := 14, slots := #[.int (-39)], vm := .none },
  { cls := 14, slots := #[.int (-38)], vm := .none },
  { cls := 14, slots := #[.int (-37)], vm := .none },
  { cls := 14, slots := #[.int (-36)], vm := .none },
  { cls := 14, slots := #[.int (-35)], vm := .none },
  { cls := 14, slots := #[.int (-34)], vm := .none },
  { cls := 14, slots := #[.int (-33)], vm := .none },
  { cls := 14, slots := #[.int (-32)], vm := .none },
  { cls := 14, slots := #[.int (-31)], vm := .none },
  { cls := 14, slots := #[.int (-30)], vm := .none },
  { cls := 14, slots := #[.int (-29)], vm := .none },
  { cls := 14, slots := #[.int (-28)], vm := .none },
  { cls := 14, slots := #[.int (-27)], vm := .none },
  { cls := 14, slots := #[.int (-26)], vm := .none },
  { cls := 14, slots := #[.int (-25)], vm := .none },
  { cls := 14, slots := #[.int (-24)], vm := .none },
  { cls := 14, slots := #[.int (-23)], vm := .none },
  { cls := 14, slots := #[.int (-22)], vm := .none },
  { cls := 14, slots := #[.int (-21)], vm := .none },
  { cls := 14, slots := #[.int (-20)], vm := .none },
  { cls := 14, slots := #[.int (-19)], vm := .none },
  { cls := 14, slots := #[.int (-18)], vm := .none },
  { cls := 14, slots := #[.int (-17)], vm := .none },
  { cls := 14, slots := #[.int (-16)], vm := .none },
  { cls := 14, slots := #[.int (-15)], vm := .none },
  { cls := 14, slots := #[.int (-14)], vm := .none },
  { cls := 14, slots := #[.int (-13)], vm := .none },
  { cls := 14, slots := #[.int (-12)], vm := .none },
  { cls := 14, slots := #[.int (-11)], vm := .none },
  { cls := 14, slots := #[.int (-10)], vm := .none },
  { cls := 14, slots := #[.int (-9)], vm := .none },
  { cls := 14, slots := #[.int (-8)], vm := .none },
  { cls := 14, slots := #[.int (-7)], vm := .none },
  { cls := 14, slots := #[.int (-6)], vm := .none },
  { cls := 14, slots := #[.int (-5)], vm := .none },
  { cls := 14, slots := #[.int (-4)], vm := .none },
  { cls := 14, slots := #[.int (-3)], vm := .none },
  { cls := 14, slots := #[.int (-2)], vm := .none },
  { cls := 14, slots := #[.int (-1)], vm := .none },
  { cls := 14, slots := #[.int (0)], vm := .none },
  { cls := 14, slots := #[.int (1)], vm := .none },
  { cls := 14, slots := #[.int (2)], vm := .none },
  { cls := 14, slots := #[.int (3)], vm := .none },
  { cls := 14, slots := #[.int (4)], vm := .none },
  { cls := 14, slots := #[.int (5)], vm := .none },
  { cls := 14, slots := #[.int (6)], vm := .none },
  { cls := 14, slots := #[.int (7)], vm := .none },
  { cls := 14, slots := #[.int (8)], vm := .none },
  { cls := 14, slots := #[.int (9)], vm := .none },
  { cls := 14, slots := #[.int (10)], vm := .none },
  { cls := 14, slots := #[.int (11)], vm := .none },
  { cls := 14, slots := #[.int (12)], vm := .none },
  { cls := 14, slots := #[.int (13)], vm := .none },
  { cls := 14, slots := #[.int (14)], vm := .none },
  { cls := 14, slots := #[.int (15)], vm := .none },
  { cls := 14, slots := #[.int (16)], vm := .none },
  { cls := 14, slots := #[.int (17)], vm := .none },
  { cls := 14, slots := #[.int (18)], vm := .none },
  { cls := 14, slots := #[.int (19)], vm := .none },
  { cls := 14, slots := #[.int (20)], vm := .none },
  { cls := 14, slots := #[.int (21)], vm := .none },
  { cls := 14, slots := #[.int (22)], vm := .none },
  { cls := 14, slots := #[.int (23)], vm := .none },
  { cls := 14, slots := #[.int (24)], vm := .none },
  { cls := 14, slots := #[.int (25)], vm := .none },
  { cls := 14, slots := #[.int (26)], vm := .none },
  { cls := 14, slots := #[.int (27)], vm := .none },
  { cls := 14, slots := #[.int (28)], vm := .none },
  { cls := 14, slots := #[.int (29)], vm := .none },
  { cls := 14, slots := #[.int (30)], vm := .none },
  { cls := 14, slots := #[.int (31)], vm := .none },
  { cls := 14, slots := #[.int (32)], vm := .none },
  { cls := 14, slots := #[.int (33)], vm := .none },
  { cls := 14, slots := #[.int (34)], vm := .none },
  { cls := 14, slots := #[.int (35)], vm := .none },
  { cls := 14, slots := #[.int (36)], vm := .none },
  { cls := 14, slots := #[.int (37)], vm := .none },
  { cls := 14, slots := #[.int (38)], vm := .none },
  { cls := 14, slots := #[.int (39)], vm := .none },
  { cls := 14, slots := #[.int (40)], vm := .none },
  { cls := 14, slots := #[.int (41)], vm := .none },
  { cls := 14, slots := #[.int (42)], vm := .none },
  { cls := 14, slots := #[.int (43)], vm := .none },
  { cls := 14, slots := #[.int (44)], vm := .none },
  { cls := 14, slots := #[.int (45)], vm := .none },
  { cls := 14, slots := #[.int (46)], vm := .none },
  { cls := 14, slots := #[.int (47)], vm := .none },
  { cls := 14, slots := #[.int (48)], vm := .none },
  { cls := 14, slots := #[.int (49)], vm := .none },
  { cls := 14, slots := #[.int (50)], vm := .none },
  { cls := 14, slots := #[.int (51)], vm := .none },
  { cls := 14, slots := #[.int (52)], vm := .none },
  { cls := 14, slots := #[.int (53)], vm := .none },
  { cls := 14, slots := #[.int (54)], vm := .none },
  { cls := 14, slots := #[.int (55)], vm := .none },
  { cls := 14, slots := #[.int (56)], vm := .none },
  { cls := 14, slots := #[.int (57)], vm := .none },
  { cls := 14, slots := #[.int (58)], vm := .none },
  { cls := 14, slots := #[.int (59)], vm := .none },
  { cls := 14, slots := #[.int (60)], vm := .none },
  { cls := 14, slots := #[.int (61)], vm := .none },
  { cls := 14, slots := #[.int (62)], vm := .none },
  { cls := 14, slots := #[.int (63)], vm := .none },
  { cls := 14, slots := #[.int (64)], vm := .none },
  { cls := 14, slots := #[.int (65)], vm := .none },
  { cls := 14, slots := #[.int (66)], vm := .none },
  { cls := 14, slots := #[.int (67)], vm := .none },
  { cls := 14, slots := #[.int (68)], vm := .none },
  { cls := 14, slots := #[.int (69)], vm := .none },
  { cls := 14, slots := #[.int (70)], vm := .none },
  { cls := 14, slots := #[.int (71)], vm := .none },
  { cls := 14, slots := #[.int (72)], vm := .none },
  { cls := 14, slots := #[.int (73)], vm := .none },
  { cls := 14, slots := #[.int (74)], vm := .none },
  { cls := 14, slots := #[.int (75)], vm := .none },
  { cls := 14, slots := #[.int (76)], vm := .none },
  { cls := 14, slots := #[.int (77)], vm := .none },
  { cls := 14, slots := #[.int (78)], vm := .none },
  { cls := 14, slots := #[.int (79)], vm := .none },
  { cls := 14, slots := #[.int (80)], vm := .none },
  { cls := 14, slots := #[.int (81)], vm := .none },
  { cls := 14, slots := #[.int (82)], vm := .none },
  { cls := 14, slots := #[.int (83)], vm := .none },
  { cls := 14, slots := #[.int (84)], vm := .none },
  { cls := 14, slots := #[.int (85)], vm := .none },
  { cls := 14, slots := #[.int (86)], vm := .none },
  { cls := 14, slots := #[.int (87)], vm := .none },
  { cls := 14, slots := #[.int (88)], vm := .none },
  { cls := 14, slots := #[.int (89)], vm := .none },
  { cls := 14, slots := #[.int (90)], vm := .none },
  { cls := 14, slots := #[.int (91)], vm := .none },
  { cls := 14, slots := #[.int (92)], vm := .none },
  { cls := 14, slots := #[.int (93)], vm := .none },
  { cls := 14, slots := #[.int (94)], vm := .none },
  { cls := 14, slots := #[.int (95)], vm := .none },
  { cls := 14, slots := #[.int (96)], vm := .none },
  { cls := 14, slots := #[.int (97)], vm := .none },
  { cls := 14, slots := #[.int (98)], vm := .none },
  { cls := 14, slots := #[.int (99)], vm := .none },
  { cls := 14, slots := #[.int (100)], vm := .none },
  { cls := 14, slots := #[.int (101)], vm := .none },
  { cls := 14, slots := #[.int (102)], vm := .none },
  { cls := 14, slots := #[.int (103)], vm := .none },
  { cls := 14, slots := #[.int (104)], vm := .none },
  { cls := 14, slots := #[.int (105)], vm := .none },
  { cls := 14, slots := #[.int (106)], vm := .none },
  { cls := 14, slots := #[.int (107)], vm := .none },
  { cls := 14, slots := #[.int (108)], vm := .none },
  { cls := 14, slots := #[.int (109)], vm := .none },
  { cls := 14, slots := #[.int (110)], vm := .none },
  { cls := 14, slots := #[.int (111)], vm := .none },
  { cls := 14, slots := #[.int (112)], vm := .none },
  { cls := 14, slots := #[.int (113)], vm := .none },
  { cls := 14, slots := #[.int (114)], vm := .none },
  { cls := 14, slots := #[.int (115)], vm := .none },
  { cls := 14, slots := #[.int (116)], vm := .none },
  { cls := 14, slots := #[.int (117)], vm := .none },
  { cls := 14, slots := #[.int (118)], vm := .none },
  { cls := 14, slots := #[.int (119)], vm := .none },
  { cls := 14, slots := #[.int (120)], vm := .none },
  { cls := 14, slots := #[.int (121)], vm := .none },
  { cls := 14, slots := #[.int (122)], vm := .none },
  { cls := 14, slots := #[.int (123)], vm := .none },
  { cls := 14, slots := #[.int (124)], vm := .none },
  { cls := 14, slots := #[.int (125)], vm := .none },
  { cls := 14, slots := #[.int (126)], vm := .none },
  { cls := 14, slots := #[.int (127)], vm := .none },
  { cls := 6, slots := #[.null, .int 0, .int 0, .null, .int 0, .int 0, .null, .int 0], vm := .none },
  { cls := 6, slots := #[.null, .int 1, .int 0, .null, .int 0, .int 0, .null, .int 0], vm := .none },
  { cls := 6, slots := #[.null, .int 2, .int 0, .null, .int 0, .int 0, .null, .int 0], vm := .none },
  { cls := 6, slots := #[.null, .int 3, .int 0, .null, .int 0, .int 0, .null, .int 0], vm := .none },
  { cls := 6, slots := #[.null, .int 4, .int 0, .null, .int 0, .int 0, .null, .int 0], vm := .none },
  { cls := 6, slots := #[.null, .int 5, .int 0, .null, .int 0, .int 0, .null, .int 0], vm := .none },
  { cls := 6, slots := #[.null, .int 6, .int 0, .null, .int 0, .int 0, .null, .int 0], vm := .none },
  { cls := 6, slots := #[.null, .int 7, .int 0, .null, .int 0, .int 0, .null, .int 0], vm := .none }]
def classes : Array Class := #[k0, k1, k2, k3, k4, k5, k6, k7, k8, k9, k10, k11, k12, k13, k14, k15, k16, k17, k18, k19, k20, k21, k22, k23, k24, k25, k26, k27, k28, k29]
def interned : List (Array UInt16 × Addr) := []
def slotsUsed : Nat := 600
def theMethod : MethodId := ⟨1, 1⟩
def args0 : Array Value := #[.int 5, .int 6, .int 7, .int 8]
def aboutOver (below : List Frame) : State where
  vm := { classes := classes, interned := interned.toArray }
  heap := heap
  slotsUsed := slotsUsed
  threads := #[{ frames := .invoking theMethod args0 :: below }]
def below0 : List Frame := [.native { method := ⟨0, 0⟩, args := #[] }]
def about1 : State := aboutOver below0
def p0 : Program := .bare "" "" ""
def e0 : Env := launch0.env 0 0 0
theorem w_frames : about1.frames = Frame.invoking theMethod args0 :: below0 := rfl
set_option maxRecDepth 65536 in
theorem w_args : argsFit about1.vm theMethod args0 = true := by decide +kernel
set_option maxRecDepth 65536 in
theorem w_heap : heapFits about1 = true := by decide +kernel
set_option maxRecDepth 65536 in
theorem w_runnable : about1.curStatus? = some .runnable := by decide +kernel
set_option maxRecDepth 65536 in
theorem w_alone : about1.alone = true := by decide +kernel
set_option maxRecDepth 65536 in
theorem w_named : about1.methodNamed? x = some theMethod := by decide +kernel
set_option maxRecDepth 65536 in
theorem w_hears : about1.hears theMethod below0 = true := by decide +kernel
set_option maxRecDepth 65536 in
theorem w_ripe : about1.ripe theMethod args0 below0 = true := by decide +kernel
theorem w_running : about1.status = .running := rfl
set_option maxRecDepth 65536 in
theorem w_room : about1.hasRoom e0.platform room_1 = true :=
  launch0.hasRoom_least _ room_1 (by decide +kernel) (by decide +kernel) (by decide +kernel) (by decide +kernel) (by decide +kernel) (by decide +kernel)
theorem allAtoms_all (ts : List Jvm.Cond) (a : Array Jvm.Value) (st : Jvm.State) : (allAtoms ts).before a st = ts.all (fun c => c.before a st) := by
  induction ts with
  | nil => rfl
  | cons c t ih =>
    show (Jvm.Cond.and c (allAtoms t)).before a st = _
    rw [Jvm.Cond.before_and, ih, List.all_cons]
def words1 : List Jvm.Cond := Jvm.Cond.code x code maxLocals ret :: tables_1
/-- a 'code' word, met by the world's own term for the bytes: nothing is compared byte by byte -/
theorem code_word {y : MethodName} {bytes : ByteArray} {mx : Nat} {rt : Option FieldType} {a : Array Value} {s : State} {m : MethodId} {meth : Method} {c : Code} (h1 : s.methodNamed? y = some m) (h2 : s.vm.method? m = some meth) (h3 : meth.code = some c) (h4 : c.code = bytes)
    (h5 : (c.maxLocals == mx && c.exceptionTable.isEmpty && decide (c.maxStack ≤ mostOperands) && decide (meth.sig.returnType = rt) && !meth.locks && decide (parseMethodDescriptor y.desc = some meth.sig)) = true) : (Jvm.Cond.code y bytes mx rt).before a s = true := by
  simp only [Bool.and_eq_true, beq_iff_eq, Bool.not_eq_true', decide_eq_true_eq] at h5
  obtain ⟨⟨⟨⟨⟨g1, g2⟩, g3⟩, g4⟩, g5⟩, g6⟩ := h5
  simp [Cond.before, Cond.holds, Cond.value, h1, h2, h3, h4, g1, g2, g3, g4, g5, g6]
def isCode : Jvm.Cond → Bool
  | .code _ _ _ _ => true
  | _ => false
theorem all_split {L : List Jvm.Cond} {P : Jvm.Cond → Bool} (h1 : L.all (fun c => isCode c || P c) = true) (h2 : ∀ c ∈ L.filter isCode, P c = true) : L.all P = true := by
  refine List.all_eq_true.mpr fun c hc => ?_
  have h := List.all_eq_true.mp h1 c hc
  rcases Bool.eq_false_or_eq_true (isCode c) with hi | hi
  · exact h2 c (List.mem_filter.mpr ⟨hc, hi⟩)
  · simpa [hi] using h
set_option maxRecDepth 65536 in
theorem w_c0 : (Jvm.Cond.code x code maxLocals ret).before args0 about1 = true := code_word (m := ⟨1, 1⟩) (meth := k1m1) (c := k1c1) (by decide +kernel) rfl rfl rfl (by decide +kernel)
set_option maxRecDepth 65536 in
theorem w_c1 : (Jvm.Cond.code ({ cls := "java/lang/String", name := "<init>", desc := "([C)V" } : Jvm.MethodName) jdk_42_method_3_code (2 : Nat) (Option.none : Option Jvm.ClassFile.FieldType)).before args0 about1 = true := code_word (m := ⟨9, 1⟩) (meth := k9m1) (c := k9c1) (by decide +kernel) rfl rfl rfl (by decide +kernel)
set_option maxRecDepth 65536 in
theorem w_c2 : (Jvm.Cond.code ({ cls := "java/lang/String", name := "<init>", desc := "([CIILjava/lang/Void;)V" } : Jvm.MethodName) jdk_42_method_149_code (6 : Nat) (Option.none : Option Jvm.ClassFile.FieldType)).before args0 about1 = true := code_word (m := ⟨9, 4⟩) (meth := k9m4) (c := k9c4) (by decide +kernel) rfl rfl rfl (by decide +kernel)
set_option maxRecDepth 65536 in
theorem w_c3 : (Jvm.Cond.code ({ cls := "java/lang/Object", name := "<init>", desc := "()V" } : Jvm.MethodName) object_method_1_code (1 : Nat) (Option.none : Option Jvm.ClassFile.FieldType)).before args0 about1 = true := code_word (m := ⟨0, 0⟩) (meth := k0m0) (c := k0c0) (by decide +kernel) rfl rfl rfl (by decide +kernel)
set_option maxRecDepth 65536 in
theorem w_c4 : (Jvm.Cond.code ({ cls := "java/lang/String", name := "valueOf", desc := "(C)Ljava/lang/String;" } : Jvm.MethodName) jdk_42_method_139_code (1 : Nat) (Option.some (Jvm.ClassFile.FieldType.object "java/lang/String"))).before args0 about1 = true := code_word (m := ⟨9, 3⟩) (meth := k9m3) (c := k9c3) (by decide +kernel) rfl rfl rfl (by decide +kernel)
set_option maxRecDepth 65536 in
theorem w_c5 : (Jvm.Cond.code ({ cls := "java/lang/StringLatin1", name := "canEncode", desc := "(C)Z" } : Jvm.MethodName) jdk_43_method_3_code (1 : Nat) (Option.some Jvm.ClassFile.FieldType.boolean)).before args0 about1 = true := code_word (m := ⟨12, 1⟩) (meth := k12m1) (c := k12c1) (by decide +kernel) rfl rfl rfl (by decide +kernel)
set_option maxRecDepth 65536 in
theorem w_c6 : (Jvm.Cond.code ({ cls := "java/lang/StringLatin1", name := "toBytes", desc := "(C)[B" } : Jvm.MethodName) jdk_43_method_46_code (1 : Nat) (Option.some (Jvm.ClassFile.FieldType.array Jvm.ClassFile.FieldType.byte))).before args0 about1 = true := code_word (m := ⟨12, 2⟩) (meth := k12m2) (c := k12c2) (by decide +kernel) rfl rfl rfl (by decide +kernel)
set_option maxRecDepth 65536 in
theorem w_c7 : (Jvm.Cond.code ({ cls := "java/lang/String", name := "<init>", desc := "([BB)V" } : Jvm.MethodName) jdk_42_method_151_code (3 : Nat) (Option.none : Option Jvm.ClassFile.FieldType)).before args0 about1 = true := code_word (m := ⟨9, 5⟩) (meth := k9m5) (c := k9c5) (by decide +kernel) rfl rfl rfl (by decide +kernel)
set_option maxRecDepth 65536 in
theorem w_c8 : (Jvm.Cond.code ({ cls := "com/example/klotho/klotho/WorkflowOutcome", name := "<init>", desc := "(Ljava/lang/String;Lcom/example/klotho/klotho/InstanceStatus;Ljava/lang/Object;Lcom/example/klotho/klotho/RecordedFailure;Ljava/lang/String;)V" } : Jvm.MethodName) prog_37_method_2_code (6 : Nat) (Option.none : Option Jvm.ClassFile.FieldType)).before args0 about1 = true := code_word (m := ⟨11, 1⟩) (meth := k11m1) (c := k11c1) (by decide +kernel) rfl rfl rfl (by decide +kernel)
set_option maxRecDepth 65536 in
theorem w_c9 : (Jvm.Cond.code ({ cls := "java/lang/Record", name := "<init>", desc := "()V" } : Jvm.MethodName) jdk_30_method_1_code (1 : Nat) (Option.none : Option Jvm.ClassFile.FieldType)).before args0 about1 = true := code_word (m := ⟨10, 0⟩) (meth := k10m0) (c := k10c0) (by decide +kernel) rfl rfl rfl (by decide +kernel)
set_option maxRecDepth 65536 in
theorem w_c10 : (Jvm.Cond.code ({ cls := "com/example/klotho/klotho/WorkflowOutcome", name := "isRefused", desc := "()Z" } : Jvm.MethodName) prog_37_method_3_code (1 : Nat) (Option.some Jvm.ClassFile.FieldType.boolean)).before args0 about1 = true := code_word (m := ⟨11, 2⟩) (meth := k11m2) (c := k11c2) (by decide +kernel) rfl rfl rfl (by decide +kernel)
set_option maxRecDepth 65536 in
theorem w_c11 : (Jvm.Cond.code ({ cls := "com/example/klotho/klotho/WorkflowOutcome", name := "refusal", desc := "()Ljava/lang/String;" } : Jvm.MethodName) prog_37_method_12_code (1 : Nat) (Option.some (Jvm.ClassFile.FieldType.object "java/lang/String"))).before args0 about1 = true := code_word (m := ⟨11, 4⟩) (meth := k11m4) (c := k11c4) (by decide +kernel) rfl rfl rfl (by decide +kernel)
set_option maxRecDepth 65536 in
theorem w_c12 : (Jvm.Cond.code ({ cls := "com/example/klotho/klotho/WorkflowOutcome", name := "isRunningElsewhere", desc := "()Z" } : Jvm.MethodName) prog_37_method_4_code (1 : Nat) (Option.some Jvm.ClassFile.FieldType.boolean)).before args0 about1 = true := code_word (m := ⟨11, 3⟩) (meth := k11m3) (c := k11c3) (by decide +kernel) rfl rfl rfl (by decide +kernel)
set_option maxRecDepth 65536 in
theorem w_c13 : (Jvm.Cond.code ({ cls := "java/lang/Integer", name := "valueOf", desc := "(I)Ljava/lang/Integer;" } : Jvm.MethodName) jdk_33_method_22_code (1 : Nat) (Option.some (Jvm.ClassFile.FieldType.object "java/lang/Integer"))).before args0 about1 = true := code_word (m := ⟨14, 0⟩) (meth := k14m0) (c := k14c0) (by decide +kernel) rfl rfl rfl (by decide +kernel)
set_option maxRecDepth 65536 in
theorem w_c14 : (Jvm.Cond.code ({ cls := "com/example/klotho/klotho/WorkflowOutcome", name := "<init>", desc := "(Ljava/lang/String;Lcom/example/klotho/klotho/InstanceStatus;Ljava/lang/Object;Lcom/example/klotho/klotho/RecordedFailure;)V" } : Jvm.MethodName) prog_37_method_1_code (5 : Nat) (Option.none : Option Jvm.ClassFile.FieldType)).before args0 about1 = true := code_word (m := ⟨11, 0⟩) (meth := k11m0) (c := k11c0) (by decide +kernel) rfl rfl rfl (by decide +kernel)
set_option maxRecDepth 65536 in
theorem w_c15 : (Jvm.Cond.code ({ cls := "java/lang/StringUTF16", name := "compress", desc := "([CII)[B" } : Jvm.MethodName) jdk_52_method_16_code (6 : Nat) (Option.some (Jvm.ClassFile.FieldType.array Jvm.ClassFile.FieldType.byte))).before args0 about1 = true := code_word (m := ⟨16, 2⟩) (meth := k16m2) (c := k16c2) (by decide +kernel) rfl rfl rfl (by decide +kernel)
set_option maxRecDepth 65536 in
theorem w_c16 : (Jvm.Cond.code ({ cls := "java/lang/StringUTF16", name := "compress", desc := "([CI[BII)I" } : Jvm.MethodName) jdk_52_method_21_code (7 : Nat) (Option.some Jvm.ClassFile.FieldType.int)).before args0 about1 = true := code_word (m := ⟨16, 3⟩) (meth := k16m3) (c := k16c3) (by decide +kernel) rfl rfl rfl (by decide +kernel)
set_option maxRecDepth 65536 in
theorem w_c17 : (Jvm.Cond.code ({ cls := "java/lang/StringUTF16", name := "coderFromArrayLen", desc := "([BI)B" } : Jvm.MethodName) jdk_52_method_15_code (2 : Nat) (Option.some Jvm.ClassFile.FieldType.byte)).before args0 about1 = true := code_word (m := ⟨16, 1⟩) (meth := k16m1) (c := k16c1) (by decide +kernel) rfl rfl rfl (by decide +kernel)
set_option maxRecDepth 65536 in
theorem w_c18 : (Jvm.Cond.code ({ cls := "com/example/klotho/klotho/RecordedFailure", name := "<init>", desc := "(Ljava/lang/String;Ljava/lang/String;)V" } : Jvm.MethodName) prog_24_method_1_code (3 : Nat) (Option.none : Option Jvm.ClassFile.FieldType)).before args0 about1 = true := code_word (m := ⟨17, 0⟩) (meth := k17m0) (c := k17c0) (by decide +kernel) rfl rfl rfl (by decide +kernel)
set_option maxRecDepth 65536 in
theorem w_c19 : (Jvm.Cond.code ({ cls := "java/util/Objects", name := "requireNonNull", desc := "(Ljava/lang/Object;Ljava/lang/String;)Ljava/lang/Object;" } : Jvm.MethodName) jdk_31_method_11_code (2 : Nat) (Option.some (Jvm.ClassFile.FieldType.object "java/lang/Object"))).before args0 about1 = true := code_word (m := ⟨18, 1⟩) (meth := k18m1) (c := k18c1) (by decide +kernel) rfl rfl rfl (by decide +kernel)
set_option maxRecDepth 65536 in
theorem w_c20 : (Jvm.Cond.code ({ cls := "java/lang/String", name := "isEmpty", desc := "()Z" } : Jvm.MethodName) jdk_42_method_55_code (1 : Nat) (Option.some Jvm.ClassFile.FieldType.boolean)).before args0 about1 = true := code_word (m := ⟨9, 2⟩) (meth := k9m2) (c := k9c2) (by decide +kernel) rfl rfl rfl (by decide +kernel)
set_option maxRecDepth 65536 in
theorem w_c21 : (Jvm.Cond.code ({ cls := "java/lang/Integer", name := "<init>", desc := "(I)V" } : Jvm.MethodName) jdk_33_method_23_code (2 : Nat) (Option.none : Option Jvm.ClassFile.FieldType)).before args0 about1 = true := code_word (m := ⟨14, 1⟩) (meth := k14m1) (c := k14c1) (by decide +kernel) rfl rfl rfl (by decide +kernel)
set_option maxRecDepth 65536 in
theorem w_c22 : (Jvm.Cond.code ({ cls := "java/lang/Number", name := "<init>", desc := "()V" } : Jvm.MethodName) jdk_18_method_1_code (1 : Nat) (Option.none : Option Jvm.ClassFile.FieldType)).before args0 about1 = true := code_word (m := ⟨13, 0⟩) (meth := k13m0) (c := k13c0) (by decide +kernel) rfl rfl rfl (by decide +kernel)
def codes1 : List Jvm.Cond := [Jvm.Cond.code x code maxLocals ret, Jvm.Cond.code ({ cls := "java/lang/String", name := "<init>", desc := "([C)V" } : Jvm.MethodName) jdk_42_method_3_code (2 : Nat) (Option.none : Option Jvm.ClassFile.FieldType), Jvm.Cond.code ({ cls := "java/lang/String", name := "<init>", desc := "([CIILjava/lang/Void;)V" } : Jvm.MethodName) jdk_42_method_149_code (6 : Nat) (Option.none : Option Jvm.ClassFile.FieldType), Jvm.Cond.code ({ cls := "java/lang/Object", name := "<init>", desc := "()V" } : Jvm.MethodName) object_method_1_code (1 : Nat) (Option.none : Option Jvm.ClassFile.FieldType), Jvm.Cond.code ({ cls := "java/lang/String", name := "valueOf", desc := "(C)Ljava/lang/String;" } : Jvm.MethodName) jdk_42_method_139_code (1 : Nat) (Option.some (Jvm.ClassFile.FieldType.object "java/lang/String")), Jvm.Cond.code ({ cls := "java/lang/StringLatin1", name := "canEncode", desc := "(C)Z" } : Jvm.MethodName) jdk_43_method_3_code (1 : Nat) (Option.some Jvm.ClassFile.FieldType.boolean), Jvm.Cond.code ({ cls := "java/lang/StringLatin1", name := "toBytes", desc := "(C)[B" } : Jvm.MethodName) jdk_43_method_46_code (1 : Nat) (Option.some (Jvm.ClassFile.FieldType.array Jvm.ClassFile.FieldType.byte)), Jvm.Cond.code ({ cls := "java/lang/String", name := "<init>", desc := "([BB)V" } : Jvm.MethodName) jdk_42_method_151_code (3 : Nat) (Option.none : Option Jvm.ClassFile.FieldType), Jvm.Cond.code ({ cls := "com/example/klotho/klotho/WorkflowOutcome", name := "<init>", desc := "(Ljava/lang/String;Lcom/example/klotho/klotho/InstanceStatus;Ljava/lang/Object;Lcom/example/klotho/klotho/RecordedFailure;Ljava/lang/String;)V" } : Jvm.MethodName) prog_37_method_2_code (6 : Nat) (Option.none : Option Jvm.ClassFile.FieldType), Jvm.Cond.code ({ cls := "java/lang/Record", name := "<init>", desc := "()V" } : Jvm.MethodName) jdk_30_method_1_code (1 : Nat) (Option.none : Option Jvm.ClassFile.FieldType), Jvm.Cond.code ({ cls := "com/example/klotho/klotho/WorkflowOutcome", name := "isRefused", desc := "()Z" } : Jvm.MethodName) prog_37_method_3_code (1 : Nat) (Option.some Jvm.ClassFile.FieldType.boolean), Jvm.Cond.code ({ cls := "com/example/klotho/klotho/WorkflowOutcome", name := "refusal", desc := "()Ljava/lang/String;" } : Jvm.MethodName) prog_37_method_12_code (1 : Nat) (Option.some (Jvm.ClassFile.FieldType.object "java/lang/String")), Jvm.Cond.code ({ cls := "com/example/klotho/klotho/WorkflowOutcome", name := "isRunningElsewhere", desc := "()Z" } : Jvm.MethodName) prog_37_method_4_code (1 : Nat) (Option.some Jvm.ClassFile.FieldType.boolean), Jvm.Cond.code ({ cls := "java/lang/Integer", name := "valueOf", desc := "(I)Ljava/lang/Integer;" } : Jvm.MethodName) jdk_33_method_22_code (1 : Nat) (Option.some (Jvm.ClassFile.FieldType.object "java/lang/Integer")), Jvm.Cond.code ({ cls := "com/example/klotho/klotho/WorkflowOutcome", name := "<init>", desc := "(Ljava/lang/String;Lcom/example/klotho/klotho/InstanceStatus;Ljava/lang/Object;Lcom/example/klotho/klotho/RecordedFailure;)V" } : Jvm.MethodName) prog_37_method_1_code (5 : Nat) (Option.none : Option Jvm.ClassFile.FieldType), Jvm.Cond.code ({ cls := "java/lang/StringUTF16", name := "compress", desc := "([CII)[B" } : Jvm.MethodName) jdk_52_method_16_code (6 : Nat) (Option.some (Jvm.ClassFile.FieldType.array Jvm.ClassFile.FieldType.byte)), Jvm.Cond.code ({ cls := "java/lang/StringUTF16", name := "compress", desc := "([CI[BII)I" } : Jvm.MethodName) jdk_52_method_21_code (7 : Nat) (Option.some Jvm.ClassFile.FieldType.int), Jvm.Cond.code ({ cls := "java/lang/StringUTF16", name := "coderFromArrayLen", desc := "([BI)B" } : Jvm.MethodName) jdk_52_method_15_code (2 : Nat) (Option.some Jvm.ClassFile.FieldType.byte), Jvm.Cond.code ({ cls := "com/example/klotho/klotho/RecordedFailure", name := "<init>", desc := "(Ljava/lang/String;Ljava/lang/String;)V" } : Jvm.MethodName) prog_24_method_1_code (3 : Nat) (Option.none : Option Jvm.ClassFile.FieldType), Jvm.Cond.code ({ cls := "java/util/Objects", name := "requireNonNull", desc := "(Ljava/lang/Object;Ljava/lang/String;)Ljava/lang/Object;" } : Jvm.MethodName) jdk_31_method_11_code (2 : Nat) (Option.some (Jvm.ClassFile.FieldType.object "java/lang/Object")), Jvm.Cond.code ({ cls := "java/lang/String", name := "isEmpty", desc := "()Z" } : Jvm.MethodName) jdk_42_method_55_code (1 : Nat) (Option.some Jvm.ClassFile.FieldType.boolean), Jvm.Cond.code ({ cls := "java/lang/Integer", name := "<init>", desc := "(I)V" } : Jvm.MethodName) jdk_33_method_23_code (2 : Nat) (Option.none : Option Jvm.ClassFile.FieldType), Jvm.Cond.code ({ cls := "java/lang/Number", name := "<init>", desc := "()V" } : Jvm.MethodName) jdk_18_method_1_code (1 : Nat) (Option.none : Option Jvm.ClassFile.FieldType)]
set_option maxRecDepth 65536 in
theorem codes_eq : words1.filter isCode = codes1 := rfl
theorem w_codes : ∀ c ∈ words1.filter isCode, c.before args0 about1 = true := by
  rw [codes_eq]
  intro c hc
  simp only [codes1, List.mem_cons, List.not_mem_nil, or_false] at hc
  rcases hc with rfl | rfl | rfl | rfl | rfl | rfl | rfl | rfl | rfl | rfl | rfl | rfl | rfl | rfl | rfl | rfl | rfl | rfl | rfl | rfl | rfl | rfl | rfl
  · exact w_c0
  · exact w_c1
  · exact w_c2
  · exact w_c3
  · exact w_c4
  · exact w_c5
  · exact w_c6
  · exact w_c7
  · exact w_c8
  · exact w_c9
  · exact w_c10
  · exact w_c11
  · exact w_c12
  · exact w_c13
  · exact w_c14
  · exact w_c15
  · exact w_c16
  · exact w_c17
  · exact w_c18
  · exact w_c19
  · exact w_c20
  · exact w_c21
  · exact w_c22
set_option maxRecDepth 65536 in
theorem w_t1 : (words1.take 24).all (fun c => isCode c || c.before args0 about1) = true := by decide +kernel
set_option maxRecDepth 65536 in
theorem w_t2 : ((words1.drop 24).take 24).all (fun c => isCode c || c.before args0 about1) = true := by decide +kernel
set_option maxRecDepth 65536 in
theorem w_t3 : (((words1.drop 24).drop 24).take 24).all (fun c => isCode c || c.before args0 about1) = true := by decide +kernel
set_option maxRecDepth 65536 in
theorem w_t4 : ((((words1.drop 24).drop 24).drop 24).take 24).all (fun c => isCode c || c.before args0 about1) = true := by decide +kernel
set_option maxRecDepth 65536 in
theorem w_t5 : (((((words1.drop 24).drop 24).drop 24).drop 24).take 24).all (fun c => isCode c || c.before args0 about1) = true := by decide +kernel
set_option maxRecDepth 65536 in
theorem w_t6 : ((((((words1.drop 24).drop 24).drop 24).drop 24).drop 24).take 24).all (fun c => isCode c || c.before args0 about1) = true := by decide +kernel
set_option maxRecDepth 65536 in
theorem w_t7 : ((((((words1.drop 24).drop 24).drop 24).drop 24).drop 24).drop 24).all (fun c => isCode c || c.before args0 about1) = true := by decide +kernel
theorem w_tables : (allAtoms (Jvm.Cond.code x code maxLocals ret :: tables_1)).before args0 about1 = true := by
  rw [allAtoms_all]
  show words1.all (fun c => c.before args0 about1) = true
  refine all_split ?_ w_codes
  rw [← List.take_append_drop 24 words1, List.all_append, w_t1, ← List.take_append_drop 24 (words1.drop 24), List.all_append, w_t2, ← List.take_append_drop 24 ((words1.drop 24).drop 24), List.all_append, w_t3, ← List.take_append_drop 24 (((words1.drop 24).drop 24).drop 24), List.all_append, w_t4, ← List.take_append_drop 24 ((((words1.drop 24).drop 24).drop 24).drop 24), List.all_append, w_t5, ← List.take_append_drop 24 (((((words1.drop 24).drop 24).drop 24).drop 24).drop 24), List.all_append, w_t6, w_t7]
  rfl
set_option maxRecDepth 65536 in
theorem w_rest : rest_1_c.before args0 about1 = true := by decide +kernel
set_option maxRecDepth 65536 in
theorem w_case : (Jvm.Cond.and given_1 narrow_1).before args0 about1 = true := by decide +kernel
set_option maxRecDepth 65536 in
theorem w_consts : constsHeld consts_1 about1 := Jvm.Lit.constsHeldB_iff.mp (by decide +kernel)
theorem w_applies : (headSpec (Jvm.Cond.code x code maxLocals ret :: tables_1) room_1).applies x e0.platform about1 = true :=
  (Spec.applies_iff w_frames).mpr ⟨w_running, w_runnable, w_alone, w_named, w_hears, w_ripe, w_room, w_tables⟩
theorem atStart : AtStart classFile x code maxLocals ret World_1 tables_1 room_1 Calls_1 rest_1 Pre_1 launch0 p0 e0 about1 theMethod args0 below0 :=
  ⟨lists_1, trivial, launch0.admits_env _ _ _, launch0.least_env, fairChoices_fair.cas, fairChoices_fair.clock, w_frames, w_args, w_heap, w_applies, ⟨w_consts, trivial⟩, w_rest, w_case⟩
end start1
theorem witness_1 : WitnessClaimed_1 := ⟨start1.p0, start1.e0, start1.about1, start1.theMethod, start1.args0, start1.below0, start1.atStart⟩
end Jvm.Pilot.@@N@@
